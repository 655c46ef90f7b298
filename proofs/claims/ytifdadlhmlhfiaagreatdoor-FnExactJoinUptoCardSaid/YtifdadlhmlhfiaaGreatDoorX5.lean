/-
  Part 5 of the proof. Conditions: as each lemma states them.
-/
import Derived.Test.YtifdadlhmlhfiaaGreatDoorX4
import Derived.Shelf.SlGeneric
import Derived.Shelf.SlSortCmp.WholeK
import Derived.Shelf.SlSortCmp.NoneTotal
import Derived.Ground.SlsfProg
namespace Go.Proofs.YtifdadlhmlhfiaaGreatDoor
open Go Go.Fw Go.Proofs Go.Proofs.Tryz
variable {g:G} {T':List ByteArray} {W funs:List Nat} {cs:List Value} {B T b i mb n1 n3 n4 n5:Nat} {v:Value} {u w w' w0:World}
theorem kR {S T:List ByteArray} {l W0:List Nat} (k:jv l u w') (ht:Tab u mb S T) (hl:∀c∈l,c=mb∨∃T0 cs0,T0∈W0∧Blk u c T0 cs0):∀(c Tt:Nat) (cs:List Value),Tt∉W0→Blk u c Tt cs→Blk w' c Tt cs:=fun c Tt cs hT hb=>k.blk hb fun hm=>by
 rcases hl c hm with rfl|⟨T0,cs0,h0,h1⟩
 ·obtain ⟨es,ck,h2, -⟩:=ht.ex
  have h3:u.heap[c]? =some (.cells cs.toArray Tt (0,0)):=hb
  rw[h2]at h3;cases h3
 ·have h2:u.heap[c]? =some (.cells cs.toArray Tt (0,0)):=hb
  have h3:u.heap[c]? =some (.cells cs0.toArray T0 (0,0)):=h1
  rw[h2]at h3
  have:Tt=T0:=by injection h3 with h3;injection h3
  exact hT (this▸h0)
theorem kB {S T:List ByteArray} (k:jv [b,mb] u w') (ht:Tab u mb S T):∀(c Tt:Nat) (cs:List Value),c≠b→Blk u c Tt cs→Blk w' c Tt cs:=fun c Tt cs hT hb=>k.blk hb fun hm=>by
 simp at hm
 rcases hm with hm|rfl
 ·exact hT hm
 ·obtain ⟨es,ck,h2, -⟩:=ht.ex
  have h3:u.heap[c]? =some (.cells cs.toArray Tt (0,0)):=hb
  rw[h2]at h3;cases h3
theorem Yc.line {x:jD} {lines:List vz} (h:Yc x w v lines) (k:∀b cs,Blk w b kq cs→Blk w' b kq cs) (hL:Ya (Qn x g) w0 w) (hv:OS kq 3 w0 v (lines.flatMap (qk g.funs))):Yc x w' v lines:=h.keep k hL hv (by rw[qw (sz:=3) (fun _=>rfl)];exact Nat.le_refl _)
theorem PS.s1 {x:jD} {n2:Nat} {T:List ByteArray} {t:xn} (h:PS B w0 mb x g n1 n2 n3 n4 n5 T u) (hmb:w0.heap.size≤mb) (hBb:B≤b) (hn:g.types.Nodup) (hb:g.types[n1]? =some b) (hx:x.types[n1]? =some t) (hp:g.per≠b) (hbk:Blk u b tVT cs) (k:jv [b,mb] u w') (p:T<+:T') (tab:Tab w' mb (yz x) T') (hφ:φ1 T' w' b t):PS B w0 mb x g (n1+1) n2 n3 n4 n5 T' w':=by
 have kr:=kR (W0:=[tVT]) k h.tab (fun c hc=>by
  simp at hc
  rcases hc with rfl|rfl
  ·exact .inr ⟨_,_,by simp,hbk⟩
  ·exact .inl rfl)
 exact ⟨tab,zt p h.zero,frK h.fr k (fun c hc=>by
  simp at hc
  rcases hc with rfl|rfl
  ·exact .inr ⟨hBb,yE hbk zp⟩
  ·exact .inl hmb),
  h.pt.step hn hb hx (fun b x hne hh=>hh.mono p fun cs=>kB k h.tab _ _ cs hne) (fun b x hne hh=>(fun cs=>kB k h.tab _ _ cs hne) _ hh) hφ,
  h.ps.mono (fun b x hh=>hh.mono p (fun cs=>kr _ _ cs dq) (fun c cs=>kr _ _ cs dq) (fun c cs=>kr _ _ cs dq)) (fun b x hh=>hh.mono (fun cs=>kr _ _ cs dq)),
  h.pm.mono (fun b x hh=>hh.mono p fun cs=>kr _ _ cs dq) (fun b x hh=>(fun cs=>kr _ _ cs dq) _ hh),
  h.pl.mono (fun b x hh=>hh.mono (fun cs=>kr _ _ cs dq) fun v hv hf=>hf.line (fun b cs=>kr _ _ cs dq) h.lines hv) (fun b x hh=>hh.mono (fun cs=>kr _ _ cs dq)),
  h.pf.mono (fun b x hh=>hh.mono p fun cs=>kr _ _ cs dq) (fun b x hh=>(fun cs=>kr _ _ cs dq) _ hh),
  kB k h.tab _ _ _ hp h.per,h.lines.keep fun b cs=>kr _ _ cs dq⟩
theorem PS.s2 {x:jD} {n2:Nat} {T:List ByteArray} {t:ku} (h:PS B w0 mb x g n1 n2 n3 n4 n5 T u) (hmb:w0.heap.size≤mb) (hBb:B≤b) (hn:g.sams.Nodup) (hb:g.sams[n2]? =some b) (hx:x.samples[n2]? =some t) (hbk:Blk u b kY cs) (k:jv [b,mb] u w') (p:T<+:T') (tab:Tab w' mb (yz x) T') (hφ:φ2 w0 T' x w' b t):PS B w0 mb x g n1 (n2+1) n3 n4 n5 T' w':=by
 have kr:=kR (W0:=[kY]) k h.tab (fun c hc=>by
  simp at hc
  rcases hc with rfl|rfl
  ·exact .inr ⟨_,_,by simp,hbk⟩
  ·exact .inl rfl)
 exact ⟨tab,zt p h.zero,frK h.fr k (fun c hc=>by
  simp at hc
  rcases hc with rfl|rfl
  ·exact .inr ⟨hBb,yE hbk zp⟩
  ·exact .inl hmb),
  h.pt.mono (fun b x hh=>hh.mono p fun cs=>kr _ _ cs dq) (fun b x hh=>(fun cs=>kr _ _ cs dq) _ hh),
  h.ps.step hn hb hx (fun b x hne hh=>hh.mono p (fun cs=>kB k h.tab _ _ cs hne) (fun c cs=>kr _ _ cs dq) (fun c cs=>kr _ _ cs dq)) (fun b x hne hh=>hh.mono (fun cs=>kB k h.tab _ _ cs hne)) hφ,
  h.pm.mono (fun b x hh=>hh.mono p fun cs=>kr _ _ cs dq) (fun b x hh=>(fun cs=>kr _ _ cs dq) _ hh),
  h.pl.mono (fun b x hh=>hh.mono (fun cs=>kr _ _ cs dq) fun v hv hf=>hf.line (fun b cs=>kr _ _ cs dq) h.lines hv) (fun b x hh=>hh.mono (fun cs=>kr _ _ cs dq)),
  h.pf.mono (fun b x hh=>hh.mono p fun cs=>kr _ _ cs dq) (fun b x hh=>(fun cs=>kr _ _ cs dq) _ hh),
  kr _ _ _ dq h.per,h.lines.keep fun b cs=>kr _ _ cs dq⟩
theorem PS.s3 {x:jD} {n2:Nat} {T:List ByteArray} {t:qK} (h:PS B w0 mb x g n1 n2 n3 n4 n5 T u) (hmb:w0.heap.size≤mb) (hBb:B≤b) (hn:g.maps.Nodup) (hb:g.maps[n3]? =some b) (hx:x.mappings[n3]? =some t) (hbk:Blk u b vO cs) (k:jv [b,mb] u w') (p:T<+:T') (tab:Tab w' mb (yz x) T') (hφ:φ3 T' w' b t):PS B w0 mb x g n1 n2 (n3+1) n4 n5 T' w':=by
 have kr:=kR (W0:=[vO]) k h.tab (fun c hc=>by
  simp at hc
  rcases hc with rfl|rfl
  ·exact .inr ⟨_,_,by simp,hbk⟩
  ·exact .inl rfl)
 exact ⟨tab,zt p h.zero,frK h.fr k (fun c hc=>by
  simp at hc
  rcases hc with rfl|rfl
  ·exact .inr ⟨hBb,yE hbk zp⟩
  ·exact .inl hmb),
  h.pt.mono (fun b x hh=>hh.mono p fun cs=>kr _ _ cs dq) (fun b x hh=>(fun cs=>kr _ _ cs dq) _ hh),
  h.ps.mono (fun b x hh=>hh.mono p (fun cs=>kr _ _ cs dq) (fun c cs=>kr _ _ cs dq) (fun c cs=>kr _ _ cs dq)) (fun b x hh=>hh.mono (fun cs=>kr _ _ cs dq)),
  h.pm.step hn hb hx (fun b x hne hh=>hh.mono p fun cs=>kB k h.tab _ _ cs hne) (fun b x hne hh=>(fun cs=>kB k h.tab _ _ cs hne) _ hh) hφ,
  h.pl.mono (fun b x hh=>hh.mono (fun cs=>kr _ _ cs dq) fun v hv hf=>hf.line (fun b cs=>kr _ _ cs dq) h.lines hv) (fun b x hh=>hh.mono (fun cs=>kr _ _ cs dq)),
  h.pf.mono (fun b x hh=>hh.mono p fun cs=>kr _ _ cs dq) (fun b x hh=>(fun cs=>kr _ _ cs dq) _ hh),
  kr _ _ _ dq h.per,h.lines.keep fun b cs=>kr _ _ cs dq⟩
theorem PS.s5 {x:jD} {n2:Nat} {T:List ByteArray} {t:yl} (h:PS B w0 mb x g n1 n2 n3 n4 n5 T u) (hmb:w0.heap.size≤mb) (hBb:B≤b) (hn:g.funs.Nodup) (hb:g.funs[n5]? =some b) (hx:x.funcs[n5]? =some t) (hbk:Blk u b xi cs) (k:jv [b,mb] u w') (p:T<+:T') (tab:Tab w' mb (yz x) T') (hφ:φ5 T' w' b t):PS B w0 mb x g n1 n2 n3 n4 (n5+1) T' w':=by
 have kr:=kR (W0:=[xi]) k h.tab (fun c hc=>by
  simp at hc
  rcases hc with rfl|rfl
  ·exact .inr ⟨_,_,by simp,hbk⟩
  ·exact .inl rfl)
 exact ⟨tab,zt p h.zero,frK h.fr k (fun c hc=>by
  simp at hc
  rcases hc with rfl|rfl
  ·exact .inr ⟨hBb,yE hbk zp⟩
  ·exact .inl hmb),
  h.pt.mono (fun b x hh=>hh.mono p fun cs=>kr _ _ cs dq) (fun b x hh=>(fun cs=>kr _ _ cs dq) _ hh),
  h.ps.mono (fun b x hh=>hh.mono p (fun cs=>kr _ _ cs dq) (fun c cs=>kr _ _ cs dq) (fun c cs=>kr _ _ cs dq)) (fun b x hh=>hh.mono (fun cs=>kr _ _ cs dq)),
  h.pm.mono (fun b x hh=>hh.mono p fun cs=>kr _ _ cs dq) (fun b x hh=>(fun cs=>kr _ _ cs dq) _ hh),
  h.pl.mono (fun b x hh=>hh.mono (fun cs=>kr _ _ cs dq) fun v hv hf=>hf.line (fun b cs=>kr _ _ cs dq) h.lines hv) (fun b x hh=>hh.mono (fun cs=>kr _ _ cs dq)),
  h.pf.step hn hb hx (fun b x hne hh=>hh.mono p fun cs=>kB k h.tab _ _ cs hne) (fun b x hne hh=>(fun cs=>kB k h.tab _ _ cs hne) _ hh) hφ,
  kr _ _ _ dq h.per,h.lines.keep fun b cs=>kr _ _ cs dq⟩
def LS (fid:Value→Int) (cs0 cs cs':List Value):Prop:=∀(j:Nat),cs'[j]? =cs[j]? ∨(j%3=2∧∃v,cs0[j - 2]? =some v∧cs'[j]? =some (.int .u64 (fid v)))
theorem LS.refl {fid:Value→Int} {cs0:List Value}:LS fid cs0 cs cs:=fun _=>.inl rfl
theorem LS.set {fid:Value→Int} {cs0 cs':List Value} (h:LS fid cs0 cs cs') (hv:cs0[i*3]? =some v) (hl:i*3+2<cs'.length):LS fid cs0 cs (cs'.set (i*3+2) (.int .u64 (fid v))):=fun j=>by
 by_cases he:i*3+2=j
 ·subst he
  exact .inr ⟨by omega,v,by simpa using hv,by rw[List.getElem?_set_self hl]⟩
 ·rw[List.getElem?_set_ne he];exact h j
theorem qcQ:∀{lines:List vz} {i:Nat} {n:vz},lines[i]? =some n→(lines.flatMap (qk funs))[i*3]? =some (qe funs n.fn):=fun {lines i n} h=>by
 have:=xg (c:=qk funs) (sz:=3) (fun _=>rfl) h 0 (qe funs n.fn) rfl
 simpa using this
theorem Yc.step {x:jD} {lines:List vz} (h:Yc x u v lines) (hv:OS kq 3 w0 v (lines.flatMap (qk g.funs))) (hfid:∀n∈lines,Qn x g (qe g.funs n.fn)=fnid x n.fn) (hL:Ya (Qn x g) w0 u)
  (hrow:∀(c:Nat) cs0 cs,Blk w0 c kq cs0→Blk u c kq cs→∃cs',Blk w' c kq cs'∧LS (Qn x g) cs0 cs cs'):Yc x w' v lines:=by
 intro p l c rb e1 e2 i n hn
 have h1:=h p l c rb e1 e2 i n hn
 obtain ⟨y,p',l',c',e3,hO,hy⟩:=hv
 rw[e1]at e3
 cases e3
 have hlen:(lines.flatMap (qk g.funs)).length=lines.length*3:=qw (sz:=3) (fun _=>rfl) _
 have hll:0<l:=by
  have:=hO.sl.1
  have:=(List.getElem?_eq_some_iff.1 hn).1
  omega
 obtain ⟨hon,hp⟩:=hO.pos hll
 rw[e2]at hp
 obtain rfl:rb=y.b:=by cases hp;rfl
 obtain ⟨cs1,h2, -⟩:=hL _ _ (hy hon)
 obtain ⟨cs',h3,h4⟩:=hrow _ _ _ (hy hon) h2
 rw[h2.cell]at h1
 rw[h3.cell]
 rcases h4 (i*3+2) with h5|⟨-,z,h5,h6⟩
 ·rw[h5];exact h1
 ·rw[h6]
  obtain ⟨-, -,q⟩:=hO.sl
  rcases q with ⟨-, -,⟨ex,q⟩, -⟩|⟨q, -⟩
  ·rw[q,show i*3+2 - 2=i*3 by omega,aq (by rw[hlen];have:=(List.getElem?_eq_some_iff.1 hn).1;omega),qcQ hn]at h5
   cases h5
   rw[hfid n (mG hn)]
  ·rw[hon]at q;cases q
theorem PS.s4 {x:jD} {n2:Nat} {T:List ByteArray} {t:vP} {l:List Nat} (h:PS B w0 mb x g n1 n2 n3 n4 n5 T u) (hBl:∀c∈l,B≤c) (hn:g.locs.Nodup) (hb:g.locs[n4]? =some b) (hx:x.locs[n4]? =some t) (hbk:Blk u b qH cs) (k:jv l u w')
  (hl:∀c∈l,c=b∨∃cs0,Blk u c kq cs0) (hfid:∀l∈x.locs,∀n∈l.lines,Qn x g (qe g.funs n.fn)=fnid x n.fn)
  (hrow:∀(c:Nat) cs0 cs,Blk w0 c kq cs0→Blk u c kq cs→∃cs',Blk w' c kq cs'∧LS (Qn x g) cs0 cs cs') (hL:Ya (Qn x g) w0 w') (hφ:φ4 w0 x g w' b t):PS B w0 mb x g n1 n2 n3 (n4+1) n5 T w':=by
 have p:=List.prefix_refl T
 have hl':∀c∈l,∃T0 cs0,T0∈[qH,kq]∧Blk u c T0 cs0:=fun c hc=>by
  rcases hl c hc with rfl|⟨cs0,h0⟩
  ·exact ⟨_,_,by simp,hbk⟩
  ·exact ⟨_,_,by simp,h0⟩
 have kr:=kR (W0:=[qH,kq]) k h.tab (fun c hc=>.inr (hl' c hc))
 have kb:∀(c:Nat) (cs:List Value),c≠b→Blk u c qH cs→Blk w' c qH cs:=fun c cs hne hc=>k.blk hc fun hm=>by
  rcases hl c hm with hm|⟨cs0,h0⟩
  ·exact hne hm
  ·exact absurd rfl (Blk.ne hc h0 dq)
 have hmap:∀es ck,u.heap[mb]? =some (.map es ck)→w'.heap[mb]? =some (.map es ck):=fun es ck hm=>k.keep _ _ hm fun hmm=>by
  obtain ⟨T0,cs0, -,h0⟩:=hl' _ hmm
  have h3:u.heap[mb]? =some (.cells cs0.toArray T0 (0,0)):=h0
  rw[hm]at h3;cases h3
 have hPl:Pg n4 g.locs x.locs (fun b t=>φ4 w0 x g u b t∧t∈x.locs) (ψ4 B w0 g u):=fun i b t hb ht=>⟨fun hi=>⟨(h.pl i b t hb ht).1 hi,mG ht⟩,(h.pl i b t hb ht).2⟩
 exact ⟨h.tab.keep hmap,h.zero,frK h.fr k (fun c hc=>by
  obtain ⟨T0,cs0,h0,h1⟩:=hl' c hc
  exact .inr ⟨hBl c hc,yE h1 (by simp at h0;rcases h0 with rfl|rfl<;>simp)⟩),
  h.pt.mono (fun b x hh=>hh.mono p fun cs=>kr _ _ cs dq) (fun b x hh=>(fun cs=>kr _ _ cs dq) _ hh),
  h.ps.mono (fun b x hh=>hh.mono p (fun cs=>kr _ _ cs dq) (fun c cs=>kr _ _ cs dq) (fun c cs=>kr _ _ cs dq)) (fun b x hh=>hh.mono (fun cs=>kr _ _ cs dq)),
  h.pm.mono (fun b x hh=>hh.mono p fun cs=>kr _ _ cs dq) (fun b x hh=>(fun cs=>kr _ _ cs dq) _ hh),
  hPl.step hn hb hx (fun b t hne hh=>hh.1.mono (fun cs=>kb _ cs hne) fun v hv hf=>hf.step hv (hfid _ hh.2) h.lines hrow) (fun b t hne hh=>hh.mono fun cs=>kb _ cs hne) hφ,
  h.pf.mono (fun b x hh=>hh.mono p fun cs=>kr _ _ cs dq) (fun b x hh=>(fun cs=>kr _ _ cs dq) _ hh),
  kr _ _ _ dq h.per,hL⟩
theorem Blk.same' {ds:List Value} (h:Blk w b T cs) (k:Blk w b T ds):cs=ds:=by
 have q1:w.heap[b]? =some (.cells cs.toArray T (0,0)):=h
 have q2:w.heap[b]? =some (.cells ds.toArray T (0,0)):=k
 rw[q1]at q2
 simpa using q2
def XK (on:Bool) (b:Nat):List Nat:=if on then [b] else []
theorem Hp.rowOff {yb T2:Nat} {cs1:List Value} {on:Bool} (hb:Blk w b T cs) (hy:on=true→Blk w yb T2 cs1) (hne:T≠T2) (hT:W.any (fun t=>Nat.beq t T)=true) (hT2:W.any (fun t=>Nat.beq t T2)=true):
  Hp ⟨w,0,W⟩ w (⟨b,T,cs,true,true,none⟩::⟨yb,T2,cs1,true,on,none⟩::vh w (b::XK on yb)):=by
 refine ⟨⟨fun _=>hb,fun o h=>by cases h⟩,fun _ _=>.inr ⟨Nat.zero_le _,qz hT⟩,fun _ y hy' he=>?_,⟨fun h=>hy h,fun o ho=>by cases ho⟩,fun he _=>.inr ⟨Nat.zero_le _,qz hT2⟩,fun he=>vZ (by
  have:on=true:=by simpa[Ent.ex]using he
  simp[XK,this]),Hp.rest _⟩
 rcases mC hy' with rfl|hy'
 ·have hon:on=true:=by simpa[Ent.ex]using he
  exact (Blk.ne hb (hy hon) hne).symm
 ·exact vZ zp y hy' he
theorem qca {fid:Value→Int} {yb:Nat} {on:Bool} {cb cs0 cs1 csF:List Value} (hL:Ya fid w0 u) (hb:Blk u b qH cb) (k:jv (b::XK on yb) u w') (h0:on=true→Blk w0 yb kq cs0) (h1:on=true→Blk u yb kq cs1) (hF:on=true→Blk w' yb kq csF∧LC fid cs0 csF∧LS fid cs0 cs1 csF):
  (∀(c:Nat) cs0 cs,Blk w0 c kq cs0→Blk u c kq cs→∃cs',Blk w' c kq cs'∧LS fid cs0 cs cs')∧Ya fid w0 w':=by
 have key:∀c cs,Blk u c kq cs→(on=true∧c=yb)∨Blk w' c kq cs:=fun c cs hc=>by
  by_cases h:on=true∧c=yb
  ·exact .inl h
  ·refine .inr (k.blk hc fun hm=>?_)
   rcases mC hm with hm|hm
   ·exact absurd hm (Blk.ne hb hc dq).symm
   ·unfold XK at hm
    split at hm
    ·rename_i hon
     simp at hm
     exact h ⟨hon,hm⟩
    ·cases hm
 refine ⟨fun c ds0 ds hc0 hc=>?_,fun c ds0 hc0=>?_⟩
 ·rcases key c ds hc with ⟨hon,rfl⟩|hk
  ·obtain ⟨f1,f2,f3⟩:=hF hon
   rw[Blk.same' hc0 (h0 hon),Blk.same' hc (h1 hon)]
   exact ⟨csF,f1,f3⟩
  ·exact ⟨ds,hk,LS.refl⟩
 ·obtain ⟨ds,hc,hlc⟩:=hL c ds0 hc0
  rcases key c ds hc with ⟨hon,rfl⟩|hk
  ·obtain ⟨f1,f2,f3⟩:=hF hon
   rw[Blk.same' hc0 (h0 hon)]
   exact ⟨csF,f1,f2⟩
  ·exact ⟨ds,hk,hlc⟩
theorem flat3 {lines:List vz} {ex:List Value} {fid:Value→Int} (h:LC fid (lines.flatMap (qk funs)++ex) cs) (hi:i<lines.length):∃z:Int,(cs.drop (0+i*3)).take 3=[qe funs lines[i].fn,.int .i64 lines[i].line,.int .u64 z]:=by
 have hl:(lines.flatMap (qk funs)).length=lines.length*3:=qw (sz:=3) (fun _=>rfl) _
 have hg:∀(q:Nat) u,(qk funs lines[i])[q]? =some u→(lines.flatMap (qk funs)++ex)[i*3+q]? =some u:=fun q u hu=>by
  have h1:=xg (c:=qk funs) (sz:=3) (fun _=>rfl) (gE hi) q u hu
  rw[aq (List.getElem?_eq_some_iff.1 h1).1];exact h1
 have h0:cs[i*3]? =some (qe funs lines[i].fn):=by rw[(h.2 (i*3)).1 ox];exact hg 0 _ rfl
 have h1:cs[i*3+1]? =some (.int .i64 lines[i].line):=by rw[(h.2 (i*3+1)).1 ox];exact hg 1 _ rfl
 have h2:∃z:Int,cs[i*3+2]? =some (.int .u64 z):=by
  rcases (h.2 (i*3+2)).2 ox with h2|⟨v, -,h2⟩
  ·exact ⟨0,by rw[h2];exact hg 2 _ rfl⟩
  ·exact ⟨_,h2⟩
 obtain ⟨z,h2⟩:=h2
 refine ⟨z,?_⟩
 apply List.ext_getElem?
 intro q
 rw[Nat.zero_add]
 by_cases hq:q<3
 ·rw[List.getElem?_take_of_lt hq,List.getElem?_drop]
  match q,hq with
  |0,_=>exact h0
  |1,_=>exact h1
  |2,_=>exact h2
 ·rw[List.getElem?_eq_none (by simp;omega),List.getElem?_eq_none (by simp;omega)]
structure qcY (B:Nat) (w0 w':World) (x:jD) (g:G) (T:List ByteArray):Prop where
 zero:T[0]? =some eB
 sub:∀s∈T,s∈yz x
 nd:T.Nodup
 fr:Fr B (ju::wP) w0 w'
 prof:∃ty sa ma lo fu co dx kx sx,Blk w' g.pb ju [ty,.string x.deflt,sa,ma,lo,fu,co,.string x.drop,.string x.keep,.int .i64 x.time,.int .i64 x.dur,ptr g.per,.int .i64 x.period,.slice none 0 0,.int .i64 dx,.int .i64 kx,sx,.int .i64 0]∧
  OS pVT 1 w0 ty (g.types.map ptr)∧OS xS 1 w0 sa (g.sams.map ptr)∧OS xZ 1 w0 ma (g.maps.map ptr)∧OS vD 1 w0 lo (g.locs.map ptr)∧OS yq 1 w0 fu (g.funs.map ptr)∧OS qc 1 w' sx (T.map .string)∧At T dx x.drop∧At T kx x.keep
 per:φ1 T w' g.per x.per
 types:qE g.types x.types (φ1 T w')
 sams:qE g.sams x.samples (φ2 w0 T x w')
 maps:qE g.maps x.mappings (φ3 T w')
 locs:qE g.locs x.locs (φ4 w0 x g w')
 funs:qE g.funs x.funcs (φ5 T w')
 lines:Ya (Qn x g) w0 w'
theorem PS.fin {x:jD} {T:List ByteArray} {cb:List Value} (h:PS B w0 mb x g x.types.length x.samples.length x.mappings.length x.locs.length x.funcs.length T u) (hG:OfP B w0 x g) (hpb:Blk u g.pb ju cb) (hmb:w0.heap.size≤mb) (k:jv [g.pb,g.per,mb] u w') (p:T<+:T'):
  Fr B (ju::wP) w0 w'∧qE g.types x.types (φ1 T' w')∧qE g.sams x.samples (φ2 w0 T' x w')∧qE g.maps x.mappings (φ3 T' w')∧qE g.locs x.locs (φ4 w0 x g w')∧qE g.funs x.funcs (φ5 T' w')∧Ya (Qn x g) w0 w':=by
 have kr:=kR (W0:=[ju,tVT]) k h.tab (fun c hc=>by
  simp at hc
  rcases hc with rfl|rfl|rfl
  ·exact .inr ⟨_,_,by simp,hpb⟩
  ·exact .inr ⟨_,_,by simp,h.per⟩
  ·exact .inl rfl)
 have ht:qE g.types x.types (φ1 T u):=h.pt.full hG.types.1 (Nat.le_refl _)
 refine ⟨frK (h.fr.mono (B':=B) (W':=ju::wP) (.inr ⟨Nat.le_refl _,fun _ h=>List.mem_cons_of_mem _ h⟩)) k (fun c hc=>?_),⟨ht.1,fun i b y hb hy=>(ht.2 i b y hb hy).mono p fun cs hbk=>k.blk hbk fun hm=>?_⟩,
  (h.ps.full hG.sams.1 (Nat.le_refl _)).mono fun b x hh=>hh.mono p (fun cs=>kr _ _ cs dq) (fun c cs=>kr _ _ cs dq) (fun c cs=>kr _ _ cs dq),
  (h.pm.full hG.maps.1 (Nat.le_refl _)).mono fun b x hh=>hh.mono p fun cs=>kr _ _ cs dq,
  (h.pl.full hG.locs.1 (Nat.le_refl _)).mono fun b x hh=>hh.mono (fun cs=>kr _ _ cs dq) fun v hv hf=>hf.line (fun b cs=>kr _ _ cs dq) h.lines hv,
  (h.pf.full hG.funs.1 (Nat.le_refl _)).mono fun b x hh=>hh.mono p fun cs=>kr _ _ cs dq,h.lines.keep fun b cs=>kr _ _ cs dq⟩
 ·simp at hc
  rcases hc with rfl|rfl|rfl
  ·exact .inr ⟨hG.fresh.1,yE hpb zp⟩
  ·exact .inr ⟨hG.fresh.2.1,yE h.per zp⟩
  ·exact .inl hmb
 ·simp at hm
  rcases hm with rfl|rfl|rfl
  ·exact absurd rfl (Blk.ne hbk hpb dq)
  ·exact (List.nodup_cons.1 hG.ntypes).1 (mG hb)
  ·obtain ⟨es,ck,h2, -⟩:=h.tab.ex
   have h3:u.heap[b]? =some (.cells cs.toArray tVT (0,0)):=hbk
   rw[h2]at h3;cases h3
theorem Hp.rowRowMap {b2 T2 ck:Nat} {cs2:List Value} {es:List MapEntry} (hb:Blk w b T cs) (hb2:Blk w b2 T2 cs2) (hne:T≠T2) (hm:w.heap[mb]? =some (.map es.toArray ck)) (hT:W.any (fun t=>Nat.beq t T)=true) (hT2:W.any (fun t=>Nat.beq t T2)=true) (hT3:W.any (fun t=>Nat.beq t 1000000)=true):
  Hp ⟨w,0,W⟩ w (⟨b,T,cs,true,true,none⟩::⟨b2,T2,cs2,true,true,none⟩::mpE mb es ck::vh w [b,b2,mb]):=by
 have nm:∀{c U:Nat} {ds:List Value},Blk w c U ds→mb≠c:=fun {c U ds} h e=>by
  subst e
  have h1:w.heap[mb]? =some (.cells ds.toArray U (0,0)):=h
  rw[hm]at h1;cases h1
 refine ⟨⟨fun _=>hb,fun o h=>by cases h⟩,fun _ _=>.inr ⟨Nat.zero_le _,qz hT⟩,fun _ y hy he=>?_,⟨fun _=>hb2,fun o h=>by cases h⟩,fun _ _=>.inr ⟨Nat.zero_le _,qz hT2⟩,fun _ y hy he=>?_,⟨fun h=>(by cases h),fun o ho=>by cases ho;exact hm⟩,fun _ _=>.inr ⟨Nat.zero_le _,qz hT3⟩,fun _=>vZ zp,Hp.rest _⟩
 ·rcases mC hy with rfl|hy
  ·exact (Blk.ne hb hb2 hne).symm
  rcases mC hy with rfl|hy
  ·exact nm hb
  ·exact vZ zp y hy he
 ·rcases mC hy with rfl|hy
  ·exact nm hb2
  ·exact vZ zp y hy he
end Go.Proofs.YtifdadlhmlhfiaaGreatDoor
namespace Go.Fw
open Go
variable {b:Nat} {w:World}
section
variable {P:Program} {n:Nat} {f:Fm} {e:Env} {d ty:Nat} {pos:String} {af:Array Edge}
theorem qej {t rt ck kt vt:Nat} {es:List MapEntry} {m:Operand} (hu:∀w,(underlying t).run P w=.ok (.map kt vt) w) (hm:ev e m=some (.map (some b))) {a:Act} (hb:w.heap[b]? =some (.map es.toArray ck)) (ha:Sat n e a):
  (execOp a.eval ⟨some d,.call ⟨.builtin .len, #[m], #[t]⟩,rt,pos,af,none⟩).run P w=.ok (.value (.int .i64 es.length)) w:=by
 simp only[execOp]
 simp[resolve,invoke,builtin,Builtin.len_,hu,goInt,ha.ev hm]
 simp[vr hb rfl]
end
theorem OS.young {T sz:Nat} {w2 u w':World} {v:Value} {xs:List Value} {L:List Nat} (h:OS T sz w2 v xs) (k1:jv [] w2 u) (k2:jv L u w') (hL:∀c∈L,w2.heap.size≤c):OS T sz w' v xs:=h.mono fun b cs hb=>k2.blk (k1.blk hb zp) fun hm=>by
 have h1:=hb.lt
 have h2:=hL b hm
 omega
theorem qcr {y:Ent} (h:b∈qG y):y.on=true∧b=y.b:=by
 unfold qG at h
 split at h
 ·next ho=>exact ⟨ho,by simpa using h⟩
 ·cases h
theorem Hp.labs {m1 m2 ck1 ck2 T1 T2 l1 c1 l2 c2:Nat} {W:List Nat} {es1 es2:List MapEntry} {y1 y2:Ent} {p1 p2:Option Addr} {xs1 xs2:List Value} (h1:w.heap[m1]? =some (.map es1.toArray ck1)) (h2:w.heap[m2]? =some (.map es2.toArray ck2)) (hne:m1≠m2) (hO1:Own T1 1 y1 p1 l1 c1 xs1) (hO2:Own T2 1 y2 p2 l2 c2 xs2)
  (hy1:y1.on=true→Blk w y1.b T1 y1.cs) (hy2:y2.on=true→Blk w y2.b T2 y2.cs) (hT:T1≠T2) (hM:W.any (fun t=>Nat.beq t 1000000)=true) (hW1:W.any (fun t=>Nat.beq t T1)=true) (hW2:W.any (fun t=>Nat.beq t T2)=true):
  Hp ⟨w,0,W⟩ w (mpE m1 es1 ck1::mpE m2 es2 ck2::y1::y2::vh w ([m1,m2]++qG y1++qG y2)):=by
 have hx1:y1.ex=true→y1.on=true:=fun he=>by simpa[Ent.ex,hO1.ho]using he
 have hx2:y2.ex=true→y2.on=true:=fun he=>by simpa[Ent.ex,hO2.ho]using he
 have mb:∀{m b T ck:Nat} {es:List MapEntry} {cs:List Value},w.heap[m]? =some (.map es.toArray ck)→Blk w b T cs→b≠m:=fun {m b T ck es cs} hm hb e=>by
  have h3:w.heap[b]? =some (.cells cs.toArray T (0,0)):=hb
  rw[e,hm]at h3;cases h3
 refine ⟨⟨fun h=>(by cases h),fun o ho=>by cases ho;exact h1⟩,fun _ _=>.inr ⟨Nat.zero_le _,qz hM⟩,fun _ z hz hze=>?_,⟨fun h=>(by cases h),fun o ho=>by cases ho;exact h2⟩,fun _ _=>.inr ⟨Nat.zero_le _,qz hM⟩,fun _ z hz hze=>?_,
  ⟨fun ho=>?_,fun o ho=>by rw[hO1.ho]at ho;cases ho⟩,fun he _=>.inr ⟨Nat.zero_le _,by rw[hO1.tag];exact qz hW1⟩,fun he z hz hze=>?_,⟨fun ho=>?_,fun o ho=>by rw[hO2.ho]at ho;cases ho⟩,fun he _=>.inr ⟨Nat.zero_le _,by rw[hO2.tag];exact qz hW2⟩,fun he z hz hze=>?_,Hp.rest _⟩
 ·rcases mC hz with rfl|hz
  ·exact hne.symm
  rcases mC hz with rfl|hz
  ·exact mb h1 (hy1 (hx1 hze))
  rcases mC hz with rfl|hz
  ·exact mb h1 (hy2 (hx2 hze))
  ·exact vZ zp z hz hze
 ·rcases mC hz with rfl|hz
  ·exact mb h2 (hy1 (hx1 hze))
  rcases mC hz with rfl|hz
  ·exact mb h2 (hy2 (hx2 hze))
  ·exact vZ zp z hz hze
 ·rw[hO1.hT];exact hy1 ho
 ·rcases mC hz with rfl|hz
  ·exact ((hy1 (hx1 he)).ne (hy2 (hx2 hze)) hT).symm
  ·exact vZ (by simp[qG,hx1 he]) z hz hze
 ·rw[hO2.hT];exact hy2 ho
 ·exact vZ (by simp[qG,hx2 he]) z hz hze
end Go.Fw
namespace Go.Proofs.YtifdadlhmlhfiaaGreatDoor
open Go Go.Fw Go.Proofs Go.Proofs.Tryz
variable {y:Ent} {g:G} {H:ko} {z:Int} {ids:List Int} {es:List MapEntry} {L W bs:List Nat} {cs xs:List Value} {B T b c ck j k l m mb n o:Nat} {p:Option Addr} {s:ku} {v:Value} {u w w' w0:World}
theorem Vn {α β:Type} {T1 T2:Nat} {e1:α→Value} {e2:β→Value} {w2:World} {m1 m2:Nat} {f1:ByteArray→List α} {f2:ByteArray→List β} {ms1 ms2:List (ByteArray×Value)} {es1 es2 es':List MapEntry} {ck1 ck2 ck':Nat} {row1 row2:ByteArray→Ent} {k:ByteArray} {v:α} {y1 y2 y8:Ent} {p8:Option Addr} {c8:Nat}
  (h1:LMd T1 e1 w2.heap.size u m1 f1 ms1 es1 ck1 row1) (h2:LMd T2 e2 w2.heap.size u m2 f2 ms2 es2 ck2 row2) (hT:T1≠T2) (hm1:w2.heap.size≤m1) (hm2:w2.heap.size≤m2) (hku:jv [] w2 u)
  (hy1:y1.on=true→Blk u y1.b T1 y1.cs∧w2.heap.size≤y1.b) (hn1:∀k' v',xK ms1 k'=some v'→k'≠k→y1.on=true→(row1 k').b≠y1.b) (hy2:y2.on=true→Blk u y2.b T2 y2.cs∧w2.heap.size≤y2.b)
  (hL:∀c∈L,c=m1∨c=m2∨(y1.on=true∧c=y1.b)∨(y2.on=true∧c=y2.b)) (kk:jv L u w')
  (o1:w'.heap[m1]? =some (.map es'.toArray ck')) (o2:w'.heap[m2]? =some (.map es2.toArray ck2)) (b2:y2.on=true→Blk w' y2.b T2 y2.cs)
  (hM':vA Value.string (Jm ms1 k (.slice p8 ((f1 k).length+1) c8)) es' ck') (hO8:Own T1 1 y8 p8 ((f1 k).length+1) c8 ((f1 k).map e1++[e1 v])) (b8:Blk w' y8.b T1 y8.cs) (hr8:(y1.on=true∧y8.b=y1.b)∨u.heap.size≤y8.b):
  jv [] w2 w'∧LM T1 e1 w2.heap.size w' m1 (fun j=>if k=j then f1 j++[v] else f1 j)∧LM T2 e2 w2.heap.size w' m2 f2:=by
 have mb:∀{m b T ck:Nat} {es:List MapEntry} {cs:List Value},u.heap[m]? =some (.map es.toArray ck)→Blk u b T cs→b≠m:=fun {m b T ck es cs} hm hb e=>by
  have h3:u.heap[b]? =some (.cells cs.toArray T (0,0)):=hb
  rw[e,hm]at h3;cases h3
 refine ⟨hku.more kk fun q hq=>.inr ?_,h1.step k v hy1 hn1 hku.size o1 hM' hO8 b8 hr8 fun k' v' hk' hne hb=>kk.blk hb fun hm=>?_,⟨_,_,_,_,h2.keep o2 fun b cs hB hb=>?_⟩⟩
 ·rcases hL q hq with rfl|rfl|⟨h3,rfl⟩|⟨h3,rfl⟩
  ·exact hm1
  ·exact hm2
  ·exact (hy1 h3).2
  ·exact (hy2 h3).2
 ·rcases hL _ hm with e|e|⟨h3,e⟩|⟨h3,e⟩
  ·exact mb h1.hm hb e
  ·exact mb h2.hm hb e
  ·exact hn1 k' v' hk' hne h3 e
  ·exact (hb.ne (hy2 h3).1 hT) e
 ·by_cases hx:y2.on=true∧b=y2.b
  ·obtain ⟨h3,rfl⟩:=hx
   rw[Blk.same' hb (hy2 h3).1];exact b2 h3
  ·refine kk.blk hb fun hm=>?_
   rcases hL _ hm with e|e|⟨h3,e⟩|⟨h3,e⟩
   ·exact mb h1.hm hb e
   ·exact mb h2.hm hb e
   ·exact (hb.ne (hy1 h3).1 hT.symm) e
   ·exact hx ⟨h3,e⟩
theorem LM.congr {α:Type} {enc:α→Value} {f f':ByteArray→List α} (h:LM T enc B w mb f) (e:∀k,f k=f' k):LM T enc B w mb f':=by
 have:f=f':=funext e
 subst this;exact h
theorem qat {es:List LE} {v:ByteArray} (h:j<es.length) (hv:es[j].2.1=some v) (k:ByteArray):(if es[j].1=k then Jw (es.take j) k++[v] else Jw (es.take j) k)=Jw (es.take (j+1)) k:=by
 rw[← tG h]
 unfold Jw
 rw[List.filterMap_append]
 by_cases e:es[j].1=k
 ·simp[e,hv]
 ·simp[e]
theorem qau {es:List LE} {v:ByteArray} (h:j<es.length) (hv:es[j].2.1=some v) (k:ByteArray):Jx (es.take j) k=Jx (es.take (j+1)) k:=by
 rw[← tG h]
 unfold Jx
 rw[List.filterMap_append]
 simp[hv]
theorem qcy {es:List LE} (h:j<es.length) (hv:es[j].2.1=none) (k:ByteArray):(if es[j].1=k then Jx (es.take j) k++[es[j].2.2] else Jx (es.take j) k)=Jx (es.take (j+1)) k:=by
 rw[← tG h]
 unfold Jx
 rw[List.filterMap_append]
 by_cases e:es[j].1=k
 ·simp[e,hv]
 ·simp[e]
theorem qcw {es:List LE} (h:j<es.length) (hv:es[j].2.1=none) (k:ByteArray):Jw (es.take j) k=Jw (es.take (j+1)) k:=by
 rw[← tG h]
 unfold Jw
 rw[List.filterMap_append]
 simp[hv]
theorem qhx (es:List LE) (k:ByteArray):(Jw es k).length≤es.length:=List.length_filterMap_le ..
theorem qhy (es:List LE) (k:ByteArray):(Jx es k).length≤es.length:=List.length_filterMap_le ..
theorem LM.none {α:Type} {enc:α→Value} {f:ByteArray→List α} (h:LM T enc B w mb f) (hm:w.heap[mb]? =some (.map es.toArray ck)) (he:es.length=0):∀k,f k=[]:=fun k=>by
 obtain ⟨ms,es',ck',row,h⟩:=h
 have h1:=h.hm
 rw[hm]at h1
 have h2:es=es':=by simpa using (Obj.map.inj (Option.some.inj h1)).1
 have h3:=h.hM.length
 have h4:ms=[]:=List.length_eq_zero_iff.1 (by rw[← h3, ← h2];exact he)
 exact h.no k (by rw[h4];rfl)
structure OfQ (B:Nat) (w:World) (x:jD) (g:G):Prop where
  prof:∃ty sa ma lo fu co,Blk w g.pb ju (zz x ty sa ma lo fu co g.per)∧OS pVT 1 w ty (g.types.map ptr)∧OS xS 1 w sa (g.sams.map ptr)∧OS xZ 1 w ma (g.maps.map ptr)∧OS vD 1 w lo (g.locs.map ptr)∧OS yq 1 w fu (g.funs.map ptr)∧OS qc 1 w co (x.comments.map .string)
  per:Blk w g.per tVT (cVT x.per)
  types:qE g.types x.types fun b t=>Blk w b tVT (cVT t)
  maps:qE g.maps x.mappings fun b m=>Blk w b vO (qcP m)
  funs:qE g.funs x.funcs fun b f=>Blk w b xi (qcR f)
  locs:qE g.locs x.locs (ZS w g.maps g.funs)
  sams:qE g.sams x.samples (KY w g.locs)
  ntypes:(g.per::g.types).Nodup
  nmaps:g.maps.Nodup
  nfuns:g.funs.Nodup
  nlocs:g.locs.Nodup
  nsams:g.sams.Nodup
  fresh:B≤g.pb∧B≤g.per∧(∀b∈g.types,B≤b)∧(∀b∈g.maps,B≤b)∧(∀b∈g.funs,B≤b)∧(∀b∈g.locs,B≤b)∧∀b∈g.sams,B≤b
  rows:∀b∈g.locs,KZ B w b
theorem yo (h:Fr B W w w') (hT:W.all (fun t=> !Nat.beq t 1000000)=true):∀(es:Array MapEntry) (ck:Nat),w.heap[b]? =some (.map es ck)→w'.heap[b]? =some (.map es ck):=fun es ck hb=>qdC h hT es ck hb
theorem qgr {es:Array MapEntry} (h1:w0.heap.size≤m) (h2:u.heap[m]? =some (.map es ck)):Tn w0 u b [b,m]:=fun c hc=>by
  rcases mC hc with rfl|hc
  · exact .inl rfl
  · rw[List.mem_singleton]at hc;subst hc
    exact .inr ⟨h1,es,ck,h2⟩
theorem OS.openS {sz:Nat} (h:OS T sz w (.slice p l c) xs):0<l→∃b,p=some ⟨b,0,none⟩∧∀f:Fm,f.ws=w→f.W.all (fun t=> !Nat.beq t T)=true→∀w',f.ok w'→∀(j:Nat) (u:Value),xs[j]? =some u→w'.cell? ⟨b,j,none⟩=some u:=by
  obtain ⟨p',l',c',h1, -, -,h4⟩:=h.openF
  cases h1;exact h4
theorem qiV {a:Nat} (h1:a≠b) (h2:y.on=true→a≠y.b):a∉[b]++qG y:=fun hm=>by
  rcases mA hm with hm|hm
  · exact h1 (by simpa using hm)
  · unfold qG at hm
    split at hm
    · next ho=>exact h2 ho (by simpa using hm)
    · cases hm
theorem rows4 {los:List Nat} (h1:w0.heap.size≤m) (h2:u.heap[m]? =some (.map es.toArray ck)) (hy:y.on=true→Blk u y.b kq y.cs∧LP B los b y.b):
    ∀c∈([b]++qG y)++[m],c≠b→(w0.heap.size≤c∧∃es ck,u.heap[c]? =some (.map es ck))∨(c=y.b∧(∃ds,Blk u c kq ds)∧B≤c∧b≤c∧∀b'∈los,b<b'→c<b'):=fun c hc hne=>by
  rcases mA hc with hc|hc
  · rcases mA hc with hc|hc
    · exact absurd (by simpa using hc) hne
    · unfold qG at hc
      split at hc
      · next ho=>
        simp at hc;subst hc
        obtain ⟨h3,h4,h5,h6⟩:=hy ho
        exact .inr ⟨rfl,⟨_,h3⟩,h4,h5,h6⟩
      · cases hc
  · simp at hc;subst hc
    exact .inl ⟨h1,_,_,h2⟩
theorem qaU:(kH cs o [v]).length=cs.length:=by
  have:kH cs o [v]=cs.set o v:=by simp only[kH]
  rw[this,List.length_set]
theorem qie (h:Blk w b T (kH cs o [v])) (ho:o<cs.length):w.cell? ⟨b,o,none⟩=some v:=by
  rw[h.cell,qgC ho,if_pos rfl]
theorem qcu {x:jD} {funs:List Nat} {ls:List vz} {fb:Nat} (h:j<ls.length) (hfb:qe funs ls[j].fn=ptr fb) (hO:Own kq 3 y p l c (QD x funs ls j)) (hl:j*3+2<(QD x funs ls j).length):
    Own kq 3 ⟨y.b,y.T,kH (kH y.cs (0+j*3+0) [ptr fb]) (0+j*3+2) [.int .u64 0],true,true,none⟩ p l c (QD x funs ls (j+1)):=by
  have h1:=hO.put (o:=j*3) (v:=ptr fb) ox
  have h2:=h1.put (o:=j*3+2) (v:=.int .u64 0) (by rw[List.length_set];exact hl)
  rw[← hfb,qhc h,hfb]at h2
  simpa using h2
theorem qkL (h:L=[b]):Tn w0 u b L:=fun c hc=>by subst h;exact .inl (by simpa using hc)
theorem Kt {es:Array MapEntry} (h:w.heap[m]? =some (.map es ck)) (hb:Blk w b T cs):m≠b:=fun e=>by
  have h3:w.heap[b]? =some (.cells cs.toArray T (0,0)):=hb
  rw[← e,h]at h3;cases h3
theorem lab_L {a:Nat} {z:Ent}:∀c∈[a,b]++qG y++qG z,c=a∨c=b∨(y.on=true∧c=y.b)∨(z.on=true∧c=z.b):=fun c hc=>by
  rcases mA hc with hc|hc
  · rcases mA hc with hc|hc
    · simp at hc
      rcases hc with h|h
      · exact .inl h
      · exact .inr (.inl h)
    · exact .inr (.inr (.inl (qcr hc)))
  · exact .inr (.inr (.inr (qcr hc)))
theorem qhu {p q r t:Prop} (h:p∨q∨r∨t):q∨p∨t∨r:=by
  rcases h with h|h|h|h
  · exact .inr (.inl h)
  · exact .inl h
  · exact .inr (.inr (.inr h))
  · exact .inr (.inr (.inl h))
theorem qhl {T:List ByteArray} {q:Int×Int×Int} {e:LE} (h:match e.2.1 with|some v=>q.2.1≠0∧At T q.2.1 v|none=>q.2.1=0∧q.2.2=e.2.2) (hq:q.2.1≠0):∃v,e.2.1=some v∧At T q.2.1 v:=by
  cases hv:e.2.1 with
  |none=>rw[hv]at h;exact absurd h.1 hq
  |some v=>rw[hv]at h;exact ⟨v,rfl,h.2⟩
theorem qjo {T:List ByteArray} {q:Int×Int×Int} {e:LE} (h:match e.2.1 with|some v=>q.2.1≠0∧At T q.2.1 v|none=>q.2.1=0∧q.2.2=e.2.2) (hq:q.2.1=0):e.2.1=none∧q.2.2=e.2.2:=by
  cases hv:e.2.1 with
  |none=>rw[hv]at h;exact ⟨rfl,h.2⟩
  |some v=>rw[hv]at h;exact absurd hq h.1
theorem LM.fr {α:Type} {enc:α→Value} {f:ByteArray→List α} (h:LM T enc B w mb f) (k:Fr 0 [] w w'):LM T enc B w' mb f:=by
  obtain ⟨ms,es,ck,row,h⟩:=h
  exact ⟨ms,es,ck,row,h.keep (yo k rfl _ _ h.hm) fun b cs _ hb=>k.blk hb (.inr zp)⟩
theorem LM.map {α:Type} {enc:α→Value} {f:ByteArray→List α} (h:LM T enc B w mb f):∃ck es,w.heap[mb]? =some (.map (List.toArray es) ck):=by
  obtain ⟨ms,es,ck,row,h⟩:=h
  exact ⟨ck,es,h.hm⟩
theorem Hp.pair {b2 T2:Nat} {cs2:List Value} (hb:Blk w b T cs) (hb2:Blk w b2 T2 cs2) (hne:T≠T2) (hT:W.any (fun t=>Nat.beq t T)=true) (hT2:W.any (fun t=>Nat.beq t T2)=true):Hp ⟨w,0,W⟩ w (⟨b,T,cs,true,true,none⟩::⟨b2,T2,cs2,true,true,none⟩::vh w [b,b2]):=by
  refine ⟨⟨fun _=>hb,fun o ho=>by cases ho⟩,fun _ _=>.inr ⟨Nat.zero_le _,qz hT⟩,fun _ z hz hze=>?_,⟨fun _=>hb2,fun o ho=>by cases ho⟩,fun _ _=>.inr ⟨Nat.zero_le _,qz hT2⟩,fun _=>vZ zp,Hp.rest _⟩
  rcases mC hz with rfl|hz
  · exact ((hb.ne hb2 hne)).symm
  · exact vZ zp z hz hze
theorem ZD.row {l:vP} (h:ZD B w g b l):KZ B w b:=by
  obtain ⟨p,c,h1,y,h2,h3⟩:=h
  refine ⟨_,h1,fun rb n c' e=>?_⟩
  have e2:Value.slice p l.lines.length c=.slice (some ⟨rb,0,none⟩) n c':=by simpa[KB]using e
  cases e2
  obtain ⟨-, -,h4⟩:=h2.sl
  rcases h4 with ⟨h5,h6, -⟩|⟨-,h6, -⟩
  · have e3:rb=y.b:=by simpa using h6
    rw[e3];exact (h3 h5).2.1
  · cases h6
theorem Hp.freshT {x:Ent} (h:Hp ⟨w0,B,W⟩ w (x::H)) (he:x.ex=true) (hw:x.wr=true) (hT:W.all (fun t=> !Nat.beq t x.tag)=true):w0.heap.size≤x.b:=by
  rcases h.mayx (List.Mem.head _) he hw with h|⟨-,h⟩
  · exact h
  · exact absurd h (vd hT)
theorem qel {T:List ByteArray} {x:jD} {pp:Option Addr} (h:VC B T x g (.pointer pp) w) (hn:pp.isNone=false):pp=some ⟨g.per,0,none⟩∧rVT T w g.per x.per∧B≤g.per∧g.per∉g.types:=by
  rcases h.per with ⟨e, -⟩|⟨e,h1⟩
  · cases e;cases hn
  · exact ⟨by simpa using e,h1⟩
theorem qcm {T:List ByteArray} {x:jD} {wA v':World} {n1 n2 n3 n4 n5:Nat} (h:rVT T w g.per x.per) (hQ:QS B w T x g n1 n2 n3 n4 n5 wA) (hnt:g.per∉g.types) (k:jv [g.pb] wA v') (hp:Blk wA g.pb ju cs):∃n m,Blk v' g.per tVT [.string eB,.string eB,.int .i64 n,.int .i64 m]∧At T n x.per.ty∧At T m x.per.unit:=by
  obtain ⟨n,m,h1,h2,h3⟩:=h
  have h4:=hQ.pe _ hnt h1
  exact ⟨n,m,k.blk h4 (by simpa using h4.ne hp dq),h2,h3⟩
theorem qem {T:List ByteArray} {x:jD} {wA v':World} {pp:Option Addr} {p9:Nat} (h:VC B T x g (.pointer pp) w) (hpb:B≤g.pb) (hz:T[0]? =some eB) (hn:pp.isNone=true) (hQ:QS B w T x g x.types.length x.samples.length x.mappings.length x.locs.length x.funcs.length wA) (hf:wA.heap.size≤p9) (hb:Blk v' p9 tVT [.string eB,.string eB,.int .i64 0,.int .i64 0]):
    (∃n m,Blk v' p9 tVT [.string eB,.string eB,.int .i64 n,.int .i64 m]∧At T n x.per.ty∧At T m x.per.unit)∧B≤p9∧p9∉g.types:=by
  have e:x.per=⟨eB,eB⟩:=by
    rcases h.per with ⟨-,e⟩|⟨e, -⟩
    · exact e
    · cases e;cases hn
  have hs:=hQ.fr.size
  refine ⟨⟨0,0,hb,by rw[e];exact ⟨0,rfl,hz⟩,by rw[e];exact ⟨0,rfl,hz⟩⟩,?_,fun hm=>?_⟩
  · have h1:g.pb<w.heap.size:=by obtain ⟨_,_,_,_,_,_,_,_,_,_,_,_,_,_,_,_,_,_,h1, -⟩:=h.prof;exact h1.lt
    omega
  · have h2:=qE.all ((hQ.pt.full h.types.1 (Nat.le_refl _)).mono (ψ:=fun b _=>b<wA.heap.size) fun b t hh=>Blk.lt hh) _ hm
    omega
theorem qiR {T:List ByteArray} {x:jD} {wA v8:World} {vp ty sa ma lo fu co:Value} {p9:Nat} {cs8 cv:List Value} (hR:VC B T x g vp w) (hpb:B≤g.pb) (hty:OS pVT 1 w ty (g.types.map ptr)) (hsa:OS xS 1 w sa (g.sams.map ptr)) (hma:OS xZ 1 w ma (g.maps.map ptr)) (hlo:OS vD 1 w lo (g.locs.map ptr)) (hfu:OS yq 1 w fu (g.funs.map ptr))
    (hQ:QS B w T x g x.types.length x.samples.length x.mappings.length x.locs.length x.funcs.length wA) (hp:Blk wA g.pb ju cs) (hk8:jv [g.pb] wA v8) (hp8:Blk v8 g.pb ju cs8) (hv8:Blk v8 p9 tVT cv) (hB9:B≤p9) (hnt:p9∉g.types) (k:jv [g.pb,p9] v8 w') (hb:Blk w' g.pb ju (zz x ty sa ma lo fu co p9)) (hco:OS qc 1 w' co (x.comments.map .string)) (hv:Blk w' p9 tVT (cVT x.per)):
    OfQ B w' x ⟨g.pb,p9,g.types,g.maps,g.funs,g.locs,g.sams⟩∧Fr B (ju::wP) w w'∧∀b∈g.sams,VR B w' b:=by
  have hfr1:Fr B (ju::wP) w v8:=frK (hQ.fr.mono (.inr ⟨Nat.le_refl _,fun _ h=>List.mem_cons_of_mem _ h⟩)) hk8 fun b hm=>by
    simp at hm;subst hm;exact .inr ⟨hpb,yE hp (List.Mem.head _)⟩
  have hfr:Fr B (ju::wP) w w':=frK hfr1 k fun b hm=>by
    rcases mC hm with rfl|hm
    · exact .inr ⟨hpb,yE hp8 (List.Mem.head _)⟩
    · simp at hm;subst hm;exact .inr ⟨hB9,yE hv8 dq⟩
  have kr:=fun {T0:Nat} (hT:(ju::wP).all (fun t=> !Nat.beq t T0)=true)=>jk hfr hT
  have k8:∀(T0:Nat),T0≠ju→T0≠tVT→∀b ds,Blk wA b T0 ds→Blk w' b T0 ds:=fun T0 h1 h2 b ds hb=>by
    have h3:=hk8.blk hb (by simpa using hb.ne hp h1)
    refine k.blk h3 fun hm=>?_
    rcases mC hm with e|hm
    · exact (hb.ne hp h1) e
    · exact (h3.ne hv8 h2) (by simpa using hm)
  have km:∀(b:Nat) (es:Array MapEntry) (ck:Nat),wA.heap[b]? =some (.map es ck)→w'.heap[b]? =some (.map es ck):=fun b es ck h=>by
    have h3:=hk8.keep _ _ h (by simpa using Kt h hp)
    refine k.keep _ _ h3 fun hm=>?_
    rcases mC hm with e|hm
    · exact (Kt h hp) e
    · exact (Kt h3 hv8) (by simpa using hm)
  have hT:=hQ.pt.full hR.types.1 (Nat.le_refl _)
  have hL:=hQ.pl.full hR.locs.1 (Nat.le_refl _)
  have hL':qE g.locs x.locs (ZD B w' g):=hL.mono fun b l hh=>hh.mono (k8 _ dq dq b) fun r ds _=>k8 _ dq dq r ds
  refine ⟨⟨⟨ty,sa,ma,lo,fu,co,hb,hty.mono (kr rfl),hsa.mono (kr rfl),hma.mono (kr rfl),hlo.mono (kr rfl),hfu.mono (kr rfl),hco⟩,hv,⟨hT.1,fun i b t hbi ht=>?_⟩,(hQ.pm.full hR.maps.1 (Nat.le_refl _)).mono fun b m hh=>k8 _ dq dq _ _ hh,(hQ.pf.full hR.funs.1 (Nat.le_refl _)).mono fun b m hh=>k8 _ dq dq _ _ hh,hL'.mono fun b l hh=>hh.p,
    (hQ.ps.full hR.sams.1 (Nat.le_refl _)).mono fun b s hh=>hh.1.mono (k8 _ dq dq b) (k8 _ dq dq) (k8 _ dq dq) (k8 _ dq dq) km,List.nodup_cons.2 ⟨hnt,hR.ntypes⟩,hR.nmaps,hR.nfuns,hR.nlocs,hR.nsams,⟨hpb,hB9,hR.fresh⟩,qE.all (hL'.mono (ψ:=fun b _=>KZ B w' b) fun b l hh=>hh.row)⟩,hfr,qE.all ((hQ.ps.full hR.sams.1 (Nat.le_refl _)).mono (ψ:=fun b _=>VR B w' b) fun b s hh=>hh.2.mono fun cs=>k8 _ dq dq b cs)⟩
  have h1:=hT.2 i b t hbi ht
  have hne:b≠p9:=fun e=>hnt (e▸mG hbi)
  have h2:Blk v8 b tVT (cVT t):=hk8.blk h1 (by simpa using Blk.ne h1 hp dq)
  exact k.blk h2 fun hm=>by
    rcases mC hm with e|hm
    · exact (Blk.ne h1 hp dq) e
    · exact hne (by simpa using hm)
theorem qiU {a:Nat} (h1:a≠b) (h2:a≠c):a∉[b,c]:=by simp[h1,h2]
set_option maxHeartbeats 4000000 in
theorem ZJ (B:Nat) (w:World) (x:jD) (T:List ByteArray) (g:G) (vp:Value) (hR:VC B T x g vp w) (hx:vW x) (hpb:B≤g.pb) (hl:T.length≤1000000000) (hz:T[0]? =some eB):Calls Tryz.prog 89 #[ptr g.pb] w (Ret fun v w'=>v=.nilIface∧∃g',g'.pb=g.pb∧OfQ B w' x g'∧Fr B (ju::wP) w w'∧∀b∈g'.sams,VR B w' b):=by
  obtain ⟨p1,c1,p2,c2,p3,c3,p4,c4,p5,c5,p6,c6,p7,c7,cx,dx,kx,sx,hpf,hty,hsa,hma,hlo,hfu,htab,hcom,hcx,hdx,hkx,hsx⟩:=hR.prof
  have hx1:=OS.openS hty
  have hx2:=OS.openS hsa
  have hx3:=OS.openS hma
  have hx4:=OS.openS hlo
  have hx5:=OS.openS hfu
  have hc0:=mc (f:=⟨w,0,[]⟩) hpf rfl
  have hn1:=hx.ntyp
  have hn2:=hx.nsam
  have hn6:=hx.ncom
  have hn3:=hx.tab.m.2.2
  have hn5:=hx.tab.f.2.2
  have hn4:=hx.tab.l.2.2
  simp only[List.length_map]at hn3 hn4 hn5
  refine jr (args:=[_]) [(0,_)] 0 [] [] func89 rfl ntmps89 rfl rfl .nil ?_
  refine sQ fun K1=>jb (jA (k:=K1 ?_))
  refine qP fun K2 hK2=>jb (jA (k:=jw (ji (hK2 _ _ _ (sQ fun K3=>jb ?_)))))
  refine zO (fun _ h=>by cases h) rfl fun b33=>?_
  refine jA (k:=K3 (sQ fun K4=>sQ fun K5=>jb (jM (k:=jN (k:=jF 3 jz zD (k:=jL KX hc0 3 (k:=jE zn (k:=jM (k:=K5 (CJ.t [(0,_),(3,_),(4,_),(37,_),(38,_),(39,_)] (k:=jh ?_)))))))))))
  intro v3 hH3' hf3'
  have hQ0:QS B w T x g 0 0 0 0 0 v3:=QS.init hR hf3'
  have hM0:xC v3 b33 [] []:=⟨[],_,hH3'.obj (i:=0) rfl rfl,vA.nil'⟩
  have hm1F:w.heap.size≤b33:=hH3'.freshX (i:=0) rfl rfl rfl
  clear hH3'
  refine vk (σ:=Nat) (fun s=>[(0,ptr g.pb),(3,.nilIface),(4,.map (some b33)),(37,.slice p3 x.mappings.length c3),(38,.int .i64 (x.mappings.length:Nat)),(39,.int .i64 (s:Nat))])
    (fun s w'=>s≤x.mappings.length∧QS B w T x g 0 0 s 0 0 w'∧xC w' b33 ((x.mappings.map (·.id)).take s) (g.maps.take s)) (fun s=>x.mappings.length - s) 0 sR ⟨Nat.zero_le _,hQ0,hM0⟩ ?_
  rintro k3 u3 ⟨hk3,hP3,hI3⟩ KL3 hKL3
  try dsimp only at hk3 hP3 hI3
  have hc0:=mc (f:=⟨u3,0,[]⟩) (jk hP3.fr rfl _ _ hpf) rfl
  refine C.begin ⟨u3,0,[]⟩ [] jx .nil ?_
  try dsimp only
  refine sQ fun K6=>jb (jS (k:=K6 (sQ fun K7=>?_)))
  refine jq rfl (fun h40=>?_) (fun h40=>?_)
  · have hk':k3<x.mappings.length:=by omega
    obtain ⟨bq,rfl,hsq⟩:=hx3 ox
    have hkb:k3<g.maps.length:=by rw[hR.maps.1];exact hk'
    have hbe:g.maps[k3]? =some g.maps[k3]:=gE hkb
    have hxe:x.mappings[k3]? =some x.mappings[k3]:=gE hk'
    have hxm:x.mappings[k3]∈x.mappings:=List.getElem_mem hk'
    have hbm:g.maps[k3]∈g.maps:=List.getElem_mem hkb
    obtain ⟨nf,nb,hst,hat1,hat2⟩:=(hP3.pm _ _ _ hbe hxe).2 (Nat.le_refl _)
    obtain ⟨es,ck,hmap,hM⟩:=hI3.ex
    have hcell:=Kq (k:=k3) (v:=ptr g.maps[k3]) (W1:=[vO,1000000]) hP3.fr rfl rfl hsq (by simp[hkb])
    have hc0:=mc (f:=⟨u3,0,[vO,1000000]⟩) (jk hP3.fr rfl _ _ hpf) rfl
    have htU:OS qc 1 u3 (.slice p6 T.length c6) (T.map .string):=htab.mono (jk hP3.fr rfl)
    refine CJ.turnW (W:=[vO,1000000]) (Hp.rowMap hst hmap rfl rfl) ?_
    refine jg (K7 (sQ fun K8=>jh (sQ fun K9=>jb (jJ zn zT (k:=jL Qw hcell 0 (k:=jA (k:=K9 (sQ fun K10=>?_))))))))
    refine jC 17 (lts [0,1,2,3,4,5,6,7,8]++(9,false)::(lts [10,11,12,13,14]++(15,false)::lts [16])) [] rfl (by kernel_rfl) (by kernel_rfl) (dM [] (k:=dM [] (k:=dN [] (k:=dF [] 16 jz xH (k:=dL [] yv hc0 16 (k:=dM [] (k:=dN [] (k:=dF [] 10 vg so2 (k:=dM [] (k:=dE (h:=fun Kd=>?_)))))))))))
    refine Jf 0 rfl rfl rfl rfl rfl hat1 htU rfl rfl hl rfl rfl ?_
    refine Kd (sb []) (dM [] (k:=?_))
    refine jo rfl rfl (jd [] rfl) (fun _ _ h=>qt rfl rfl h) (jo rfl rfl (jd [] rfl) (fun _ _ h=>qt rfl rfl h) (dN [] (k:=dF [] 4 vg so9 (k:=dE (h:=fun Kd=>jB [_,_,_,_,_,_,_,_,_,_,_,_] (_::_::_) 0 so9 (k:=Kd (sb []) (dA [] (k:=K10 (CJ.t [(0,_),(3,_),(4,_),(6,_),(37,_),(38,_),(39,_)] (k:=sQ fun K11=>?_))))))))))
    refine jC 17 (lts [0,1,2,3,4,5,6,7,8]++(9,false)::(lts [10,11,12,13,14]++(15,false)::lts [16])) [] rfl (by kernel_rfl) (by kernel_rfl) (dM [] (k:=dM [] (k:=dN [] (k:=dF [] 16 jz xH (k:=dL [] yv hc0 16 (k:=dM [] (k:=dN [] (k:=dF [] 11 vg so2 (k:=dM [] (k:=dE (h:=fun Kd=>?_)))))))))))
    refine Jf 0 rfl rfl rfl rfl rfl hat2 htU rfl rfl hl rfl rfl ?_
    refine Kd (sb []) (dM [] (k:=?_))
    refine jo rfl rfl (jd [] rfl) (fun _ _ h=>qt rfl rfl h) (jo rfl rfl (jd [] rfl) (fun _ _ h=>qt rfl rfl h) (dN [] (k:=dF [] 5 vg so9 (k:=dE (h:=fun Kd=>jB [_,_,_,_,_,_,_,_,_,_,_,_] (_::_::_) 0 so9 (k:=Kd (sb []) (dA [] (k:=K11 (CJ.t [(0,_),(3,_),(4,_),(6,_),(37,_),(38,_),(39,_)] (k:=jb (jM (k:=jM (k:=jN (k:=?_))))))))))))))
    refine jF 0 vg kU (k:=jH 0 vy (k:=jM (k:=?_)))
    refine xf 1 rfl qaf (xN xu) hM rfl rfl rfl (fun w hH hf=>⟨fun _ _=>trivial,trivial⟩) fun es' ck' hM'=>?_
    refine K8 (jb (jI (k:=jM (k:=jw (ji ?_)))))
    exact fun w' hH hf=>hKL3 (k3+1) _ w' ⟨hk',hP3.s3 (L:=[g.maps[k3],b33]) hR.nmaps hbe hxe (hR.fresh.2.1 _ hbm) hst (Hp.keepX (l:=[g.maps[k3],b33]) hH.2.2.2.2.2.2 hf) (qgr hm1F hmap) (hH.get (i:=0) rfl rfl),xC.step (ids:=x.mappings.map (·.id)) (id:=x.mappings[k3].id) (by simpa using hR.maps.1) hx.tab.m.2.1 (by simp[hk']) hbe (hH.obj (i:=1) rfl rfl) hM'⟩ (by first|omega|(simp only;omega)) ⟨rfl,rfl,rfl,rfl,rfl,rfl,trivial⟩
  · have hke3:k3=x.mappings.length:=by omega
    subst hke3
    rw[tL zp,tL (by rw[hR.maps.1];exact Nat.le_refl _)]at hI3
    clear hKL3 hk3 h40
    refine jt (K4 (sQ fun K12=>jb ?_))
    refine zO (fun _ h=>by cases h) rfl fun b80=>?_
    refine jA (k:=K12 (CJ.t [(0,_),(3,_),(4,_),(7,_)] (k:=sQ fun K13=>sQ fun K14=>jb (jM (k:=jN (k:=jF 5 jz zw (k:=jL Kw hc0 5 (k:=jE ze (k:=jM (k:=K14 (jh ?_)))))))))))
    intro v5 hH5' hf5'
    have hQ5:=hP3.keep (jv.of hf5')
    have hI3':=hI3.keep (yo hf5' rfl)
    have hM0:xC v5 b80 [] []:=⟨[],_,hH5'.obj (i:=0) rfl rfl,vA.nil'⟩
    have hm2:u3.heap.size≤b80:=hH5'.freshX (i:=0) rfl rfl rfl
    have hm2F:w.heap.size≤b80:=Nat.le_trans hP3.fr.size hm2
    have hm12:b33<b80:=Nat.lt_of_lt_of_le hI3.lt hm2
    clear hH5'
    refine vk (σ:=Nat) (fun s=>[(0,ptr g.pb),(3,.nilIface),(4,.map (some b33)),(7,.map (some b80)),(84,.slice p5 x.funcs.length c5),(85,.int .i64 (x.funcs.length:Nat)),(86,.int .i64 (s:Nat))])
      (fun s w'=>s≤x.funcs.length∧QS B w T x g 0 0 x.mappings.length 0 s w'∧xC w' b33 (x.mappings.map (·.id)) g.maps∧xC w' b80 ((x.funcs.map (·.id)).take s) (g.funs.take s)) (fun s=>x.funcs.length - s) 0 sR ⟨Nat.zero_le _,hQ5,hI3',hM0⟩ ?_
    rintro k5 u5 ⟨hk5,hP5,hI3,hI5⟩ KL5 hKL5
    try dsimp only at hk5 hP5 hI3 hI5
    have hc0:=mc (f:=⟨u5,0,[]⟩) (jk hP5.fr rfl _ _ hpf) rfl
    refine C.begin ⟨u5,0,[]⟩ [] jx .nil ?_
    try dsimp only
    refine sQ fun K15=>jb (jS (k:=K15 (sQ fun K16=>?_)))
    refine jq rfl (fun h87=>?_) (fun h87=>?_)
    · have hk':k5<x.funcs.length:=by omega
      obtain ⟨bq,rfl,hsq⟩:=hx5 ox
      have hkb:k5<g.funs.length:=by rw[hR.funs.1];exact hk'
      have hbe:g.funs[k5]? =some g.funs[k5]:=gE hkb
      have hxe:x.funcs[k5]? =some x.funcs[k5]:=gE hk'
      have hxm:x.funcs[k5]∈x.funcs:=List.getElem_mem hk'
      have hbm:g.funs[k5]∈g.funs:=List.getElem_mem hkb
      obtain ⟨nf,nb,ni,hst,hat1,hat2,hat3⟩:=(hP5.pf _ _ _ hbe hxe).2 (Nat.le_refl _)
      obtain ⟨es,ck,hmap,hM⟩:=hI5.ex
      have hcell:=Kq (k:=k5) (v:=ptr g.funs[k5]) (W1:=[xi,1000000]) hP5.fr rfl rfl hsq (by simp[hkb])
      have hc0:=mc (f:=⟨u5,0,[xi,1000000]⟩) (jk hP5.fr rfl _ _ hpf) rfl
      have htU:OS qc 1 u5 (.slice p6 T.length c6) (T.map .string):=htab.mono (jk hP5.fr rfl)
      refine CJ.turnW (W:=[xi,1000000]) (Hp.rowMap hst hmap rfl rfl) ?_
      refine jg (K16 (sQ fun K17=>jh (sQ fun K18=>jb (jJ ze zd (k:=jL Kv hcell 0 (k:=jA (k:=K18 (sQ fun K19=>?_))))))))
      refine jC 17 (lts [0,1,2,3,4,5,6,7,8]++(9,false)::(lts [10,11,12,13,14]++(15,false)::lts [16])) [] rfl (by kernel_rfl) (by kernel_rfl) (dM [] (k:=dM [] (k:=dN [] (k:=dF [] 16 jz xH (k:=dL [] yv hc0 16 (k:=dM [] (k:=dN [] (k:=dF [] 5 xc so2 (k:=dM [] (k:=dE (h:=fun Kd=>?_)))))))))))
      refine Jf 0 rfl rfl rfl rfl rfl hat1 htU rfl rfl hl rfl rfl ?_
      refine Kd (sb []) (dM [] (k:=?_))
      refine jo rfl rfl (jd [] rfl) (fun _ _ h=>qt rfl rfl h) (jo rfl rfl (jd [] rfl) (fun _ _ h=>qt rfl rfl h) (dN [] (k:=dF [] 1 xc so9 (k:=dE (h:=fun Kd=>jB [_,_,_,_,_,_,_,_] (_::_::_) 0 so9 (k:=Kd (sb []) (dA [] (k:=K19 (CJ.t [(0,_),(3,_),(4,_),(7,_),(9,_),(84,_),(85,_),(86,_)] (k:=sQ fun K20=>?_))))))))))
      refine jC 17 (lts [0,1,2,3,4,5,6,7,8]++(9,false)::(lts [10,11,12,13,14]++(15,false)::lts [16])) [] rfl (by kernel_rfl) (by kernel_rfl) (dM [] (k:=dM [] (k:=dN [] (k:=dF [] 16 jz xH (k:=dL [] yv hc0 16 (k:=dM [] (k:=dN [] (k:=dF [] 6 xc so2 (k:=dM [] (k:=dE (h:=fun Kd=>?_)))))))))))
      refine Jf 0 rfl rfl rfl rfl rfl hat2 htU rfl rfl hl rfl rfl ?_
      refine Kd (sb []) (dM [] (k:=?_))
      refine jo rfl rfl (jd [] rfl) (fun _ _ h=>qt rfl rfl h) (jo rfl rfl (jd [] rfl) (fun _ _ h=>qt rfl rfl h) (dN [] (k:=dF [] 2 xc so9 (k:=dE (h:=fun Kd=>jB [_,_,_,_,_,_,_,_] (_::_::_) 0 so9 (k:=Kd (sb []) (dA [] (k:=K20 (CJ.t [(0,_),(3,_),(4,_),(7,_),(9,_),(84,_),(85,_),(86,_)] (k:=sQ fun K21=>?_))))))))))
      refine jC 17 (lts [0,1,2,3,4,5,6,7,8]++(9,false)::(lts [10,11,12,13,14]++(15,false)::lts [16])) [] rfl (by kernel_rfl) (by kernel_rfl) (dM [] (k:=dM [] (k:=dN [] (k:=dF [] 16 jz xH (k:=dL [] yv hc0 16 (k:=dM [] (k:=dN [] (k:=dF [] 7 xc so2 (k:=dM [] (k:=dE (h:=fun Kd=>?_)))))))))))
      refine Jf 0 rfl rfl rfl rfl rfl hat3 htU rfl rfl hl rfl rfl ?_
      refine Kd (sb []) (dM [] (k:=?_))
      refine jo rfl rfl (jd [] rfl) (fun _ _ h=>qt rfl rfl h) (jo rfl rfl (jd [] rfl) (fun _ _ h=>qt rfl rfl h) (dN [] (k:=dF [] 3 xc so9 (k:=dE (h:=fun Kd=>jB [_,_,_,_,_,_,_,_] (_::_::_) 0 so9 (k:=Kd (sb []) (dA [] (k:=K21 (CJ.t [(0,_),(3,_),(4,_),(7,_),(9,_),(84,_),(85,_),(86,_)] (k:=jb (jM (k:=jM (k:=jN (k:=?_))))))))))))))
      refine jF 0 xc kU (k:=jH 0 vy (k:=jM (k:=?_)))
      refine xf 1 rfl qae (xN xu) hM rfl rfl rfl (fun w hH hf=>⟨fun _ _=>trivial,trivial⟩) fun es' ck' hM'=>?_
      refine K17 (jb (jI (k:=jM (k:=jw (ji ?_)))))
      exact fun w' hH hf=>hKL5 (k5+1) _ w' ⟨hk',hP5.s5 (L:=[g.funs[k5],b80]) hR.nfuns hbe hxe (hR.fresh.2.2.1 _ hbm) hst (Hp.keepX (l:=[g.funs[k5],b80]) hH.2.2.2.2.2.2 hf) (qgr hm2F hmap) (hH.get (i:=0) rfl rfl),hI3.other (Hp.keepX (l:=[g.funs[k5],b80]) hH.2.2.2.2.2.2 hf) (qiU (hI3.neB hst) (Nat.ne_of_lt hm12)),xC.step (ids:=x.funcs.map (·.id)) (id:=x.funcs[k5].id) (by simpa using hR.funs.1) hx.tab.f.2.1 (by simp[hk']) hbe (hH.obj (i:=1) rfl rfl) hM'⟩ (by first|omega|(simp only;omega)) ⟨rfl,rfl,rfl,rfl,rfl,rfl,rfl,trivial⟩
    · have hke5:k5=x.funcs.length:=by omega
      subst hke5
      rw[tL zp,tL (by rw[hR.funs.1];exact Nat.le_refl _)]at hI5
      clear hKL5 hk5 h87
      refine jt (K13 (sQ fun K22=>jb ?_))
      refine zO (fun _ h=>by cases h) rfl fun b142=>?_
      refine jA (k:=K22 (CJ.t [(0,_),(3,_),(4,_),(7,_),(10,_)] (k:=sQ fun K23=>sQ fun K24=>jb (jM (k:=jN (k:=jF 4 jz xq (k:=jL zY hc0 4 (k:=jE xw (k:=jM (k:=K24 (jh ?_)))))))))))
      intro v4 hH4' hf4'
      have hQ4:=hP5.keep (jv.of hf4')
      have hI3':=hI3.keep (yo hf4' rfl)
      have hI5':=hI5.keep (yo hf4' rfl)
      have hM0:xC v4 b142 [] []:=⟨[],_,hH4'.obj (i:=0) rfl rfl,vA.nil'⟩
      have hm3:u5.heap.size≤b142:=hH4'.freshX (i:=0) rfl rfl rfl
      have hm3F:w.heap.size≤b142:=Nat.le_trans hP5.fr.size hm3
      have hm13:b33<b142:=Nat.lt_of_lt_of_le hI3.lt hm3
      have hm23:b80<b142:=Nat.lt_of_lt_of_le hI5.lt hm3
      clear hH4'
      refine vk (σ:=Nat) (fun s=>[(0,ptr g.pb),(3,.nilIface),(4,.map (some b33)),(7,.map (some b80)),(10,.map (some b142)),(146,.slice p4 x.locs.length c4),(147,.int .i64 (x.locs.length:Nat)),(148,.int .i64 (s:Nat))])
        (fun s w'=>s≤x.locs.length∧QS B w T x g 0 0 x.mappings.length s x.funcs.length w'∧xC w' b33 (x.mappings.map (·.id)) g.maps∧xC w' b80 (x.funcs.map (·.id)) g.funs∧xC w' b142 ((x.locs.map (·.id)).take s) (g.locs.take s)) (fun s=>x.locs.length - s) 0 sR ⟨Nat.zero_le _,hQ4,hI3',hI5',hM0⟩ ?_
      rintro k4 u4 ⟨hk4,hP4,hI3,hI5,hI4⟩ KL4 hKL4
      try dsimp only at hk4 hP4 hI3 hI5 hI4
      have hc0:=mc (f:=⟨u4,0,[]⟩) (jk hP4.fr rfl _ _ hpf) rfl
      refine C.begin ⟨u4,0,[]⟩ [] jx .nil ?_
      try dsimp only
      refine sQ fun K25=>jb (jS (k:=K25 (sQ fun K26=>?_)))
      refine jq rfl (fun h149=>?_) (fun h149=>?_)
      · have hk':k4<x.locs.length:=by omega
        obtain ⟨bq,rfl,hsq⟩:=hx4 ox
        have hkb:k4<g.locs.length:=by rw[hR.locs.1];exact hk'
        have hbe:g.locs[k4]? =some g.locs[k4]:=gE hkb
        have hxe:x.locs[k4]? =some x.locs[k4]:=gE hk'
        have hxm:x.locs[k4]∈x.locs:=List.getElem_mem hk'
        have hbm:g.locs[k4]∈g.locs:=List.getElem_mem hkb
        obtain ⟨pL,cL,hst,yL,hOL,hyL⟩:=(hP4.pl _ _ _ hbe hxe).2 (Nat.le_refl _)
        obtain ⟨⟨hml,hmu⟩,hl60,hln⟩:=hx.tab.locs _ hxm
        have hBb:B≤g.locs[k4]:=hR.fresh.2.2.2.1 _ hbm
        have hcell:=Kq (k:=k4) (v:=ptr g.locs[k4]) (W1:=[qH,kq]) hP4.fr rfl rfl hsq (by simp[hkb])
        have hpu:Blk u4 g.pb ju _:=jk hP4.fr rfl _ _ hpf
        have hc0:=mc (f:=⟨u4,0,[qH,kq]⟩) hpu rfl
        have hMm:∀w',Fm.ok ⟨u4,0,[qH,kq]⟩ w'→ZC (Value.int .u64) b33 (mid x x.locs[k4].mapping) (.pointer none) (qe g.maps x.locs[k4].mapping) w':=fun w' hf=>(hI3.keep (yo hf rfl)).has (by simpa using hR.maps.1.symm) hx.tab.m.1 hx.tab.m.2.1 (by simpa using hmu)
        have hMf:∀(z:Int),z<x.funcs.length→∀w',Fm.ok ⟨u4,0,[qH,kq]⟩ w'→ZC (Value.int .u64) b80 (fnid x z) (.pointer none) (qe g.funs z) w':=fun z hz w' hf=>(hI5.keep (yo hf rfl)).has (by simpa using hR.funs.1.symm) hx.tab.f.1 hx.tab.f.2.1 (by simpa using hz)
        refine CJ.turnW (W:=[qH,kq]) (Hp.two hst hOL (fun ho=>⟨(hyL ho).1,Nat.zero_le _⟩) (Nat.zero_le _) rfl rfl dq) ?_
        refine jg (K26 (sQ fun K27=>jh (sQ fun K28=>jb (jJ xw JW (k:=jL VO hcell 0 (k:=jA (k:=K28 (sQ fun K29=>jb (jM (k:=jM (k:=jM (k:=?_))))))))))))
        refine jN (k:=jF 5 vc kU (k:=jH 0 vy (k:=?_)))
        refine jp rfl (fun a w ha hH hf=>Ko qaf (xN xu) qbH rfl rfl ha (hMm w hf)) (jN (k:=jF 1 vc zT (k:=jB [_,_,_,_,_,_] (_::_::_) 0 zT (k:=K29 (CJ.t [(0,_),(3,_),(4,_),(7,_),(10,_),(12,_),(146,_),(147,_),(148,_)] (k:=sQ fun K30=>jb (jM (k:=jN (k:=jF 5 vc kU (k:=jB [_,_,_,_,_,_] (_::_::_) 0 kU (k:=K30 (sQ fun K31=>?_))))))))))))
        refine sQ fun K32=>jb (jM (k:=jN (k:=jF 3 vc xW (k:=jH 0 zX (k:=jE xX (k:=jM (k:=K32 (jh ?_))))))))
        refine jZ (σ:=Nat×Ent) (fun s=>[(0,ptr g.pb),(3,.nilIface),(4,.map (some b33)),(7,.map (some b80)),(10,.map (some b142)),(12,ptr g.locs[k4]),(146,.slice (some ⟨bq,0,none⟩) x.locs.length c4),(147,.int .i64 (x.locs.length:Nat)),(148,.int .i64 (k4:Nat)),(167,.slice pL x.locs[k4].lines.length cL),(168,.int .i64 (x.locs[k4].lines.length:Nat)),(169,.int .i64 (s.1:Nat))])
          (fun s=>⟨g.locs[k4],qH,KB g.maps x.locs[k4] (.slice pL x.locs[k4].lines.length cL),true,true,none⟩::s.2::vh u4 ([g.locs[k4]]++qG yL))
          (fun s _=>s.1≤x.locs[k4].lines.length∧Own kq 3 s.2 pL x.locs[k4].lines.length cL (QD x g.funs x.locs[k4].lines s.1)∧s.2.b=yL.b∧s.2.on=yL.on) (fun s=>x.locs[k4].lines.length - s.1)
          (0,yL) sR (fun w' hH hf=>⟨hH,Nat.zero_le _,by rw[qfp];exact hOL,rfl,rfl⟩) ?_
        rintro ⟨j,yj⟩ wj ⟨hj,hOj,hyb,hyo⟩ hfj hHj KLj hKLj
        try dsimp only at hj hOj hyb hyo
        refine C.begin _ _ hfj hHj ?_
        try dsimp only
        refine sQ fun K33=>jb (jS (k:=K33 (sQ fun K34=>?_)))
        refine jq rfl (fun h170=>?_) (fun h170=>?_)
        · have hj':j<x.locs[k4].lines.length:=by omega
          obtain ⟨hfl,hfu2⟩:=hln _ (List.getElem_mem hj')
          have hcl:∀(i:Nat) (u:Value),(Xa x x.locs[k4].lines[j])[i]? =some u→(QD x g.funs x.locs[k4].lines j)[j*3+i]? =some u:=fun i u hu=>qhd hj' hu
          obtain ⟨hon,hpe,h00⟩:=hOj.at_ (hcl 0 _ rfl)
          have h22:=(hOj.at_ (hcl 2 _ rfl)).2.2
          have hlt3:=(List.getElem?_eq_some_iff.1 (hcl 2 _ rfl)).1
          have hltc:=(List.getElem?_eq_some_iff.1 h22).1
          subst hpe
          have hcr:∀(w':World),Blk w' yj.b yj.T yj.cs→∀(i:Nat) (u:Value),(Xa x x.locs[k4].lines[j])[i]? =some u→w'.cell? ⟨yj.b,0+j*3+i,none⟩=some u:=fun w' hb i u hu=>by rw[hb.cell,Nat.zero_add];exact (hOj.at_ (hcl i u hu)).2.2
          refine jg (K34 (sQ fun K35=>jh (sQ fun K36=>jb (jM (k:=jJ xX xE (k:=?_))))))
          refine jp rfl (fun a w ha hH hf=>kD (vs:=Xa x x.locs[k4].lines[j]) Yo xE rfl rfl (fun i u hu=>hcr w (hH.get (i:=1) rfl hon) i u hu) ha) (jW (zs:=[(.pointer none),(.int .i64 0),(.int .u64 0)]) QH rfl fun b14=>jA (k:=jB [_,_,_] (_::_::_::_) 0 xE (k:=K36 (sQ fun K37=>jb (jF 2 Jj kU (k:=jH 0 vy (k:=jA (k:=K37 (sQ fun K38=>jb (jM (k:=?_)))))))))))
          refine jn rfl (fun _ _ h=>yQ rfl rfl h) (K38 (CJ.t [(0,_),(3,_),(4,_),(7,_),(10,_),(12,_),(13,_),(15,_),(146,_),(147,_),(148,_),(167,_),(168,_),(169,_),(177,_)] (k:=?_)))
          refine jq rfl (fun hq=>?_) (fun hq=>?_)
          · have hfp:0≤x.locs[k4].lines[j].fn:=qlH hq
            obtain ⟨fb,hfb⟩:=XJ (bs:=g.funs) hfp (by rw[hR.funs.1];exact hfu2)
            have hMj:=hMf x.locs[k4].lines[j].fn hfu2
            rw[hfb]at hMj
            refine sQ fun K39=>jC 11 (lts [0,1,2,3,4,5,6,7,8,9]++(10,false)::[]) [1] rfl (by kernel_rfl) (by kernel_rfl) (dM [1] (k:=dN [1] (k:=dF [1] 3 vc xW (k:=dH [1] 0 zX (k:=dM [1] (k:=dM [1] (k:=dM [1] (k:=?_))))))))
            refine vV rfl rfl (jd [1] rfl) (fun a w ha hS=>Ko qae (xN xu) qbG rfl rfl ha (hMj w hS.2)) (jo rfl rfl (jd [1] rfl) (fun _ _ h=>vH xX xE rfl rfl ox h) (dF [1] 0 Jj zd (k:=dE (h:=fun Kd=>?_))))
            refine QV (y:=yj) (o:=0+j*3+0) 2 rfl hon hOj.ho hOj.hw zd rfl rfl rfl rfl ox ?_
            refine Kd (sb [1]) (K39 (CJ.t [(0,_),(3,_),(4,_),(7,_),(10,_),(12,_),(13,_),(15,_),(146,_),(147,_),(148,_),(167,_),(168,_),(169,_)] (k:=sQ fun K40=>sQ fun K41=>jb (jM (k:=jN (k:=jF 3 vc xW (k:=jH 1 zX (k:=jM (k:=jJ xX xE (k:=jF 0 Jj zd (k:=?_)))))))))))
            refine jp rfl (fun a w ha hH hf=>kP Kv rfl (qie (v:=ptr fb) (o:=0+j*3+0) (hH.get (i:=2) rfl rfl) ox) ha) (jn rfl (fun _ _ h=>YC qaa rfl h) (K41 (jO rfl (jg (K40 (jb (jM (k:=jN (k:=jF 3 vc xW (k:=jH 1 zX (k:=jM (k:=jJ xX xE (k:=jF 2 Jj kU (k:=?_))))))))))))))
            refine QV (y:=⟨yj.b,yj.T,kH yj.cs (0+j*3+0) [ptr fb],true,true,none⟩) (o:=0+j*3+2) 2 rfl rfl rfl rfl kU rfl rfl rfl rfl (by rw[qaU];omega) ?_
            refine K35 (CJ.t [(0,_),(3,_),(4,_),(7,_),(10,_),(12,_),(146,_),(147,_),(148,_),(167,_),(168,_),(169,_)] (k:=jb (jI (k:=jM (k:=jw (ji ?_))))))
            first
              |exact fun w' hH hf=>hKLj (j+1,⟨yj.b,yj.T,kH (kH yj.cs (0+j*3+0) [ptr fb]) (0+j*3+2) [.int .u64 0],true,true,none⟩) _ w' ⟨by simp only;omega,qcu hj' hfb hOj hlt3,hyb,hon.symm.trans hyo⟩ hf (hH.drop 0) (by simp only;omega) ⟨rfl,rfl,rfl,rfl,rfl,rfl,rfl,rfl,rfl,rfl,rfl,rfl,trivial⟩
              |exact fun w' hH hf=>hKLj (j+1,yj) _ w' ⟨by simp only;omega,by rw[← qap hj' hx.tab.f.1 hfu2 ox];exact hOj,hyb,hyo⟩ hf (hH.drop 0) (by simp only;omega) ⟨rfl,rfl,rfl,rfl,rfl,rfl,rfl,rfl,rfl,rfl,rfl,rfl,trivial⟩
          · refine jg (K35 (jb (jI (k:=jM (k:=jw (ji ?_))))))
            first
              |exact fun w' hH hf=>hKLj (j+1,⟨yj.b,yj.T,kH (kH yj.cs (0+j*3+0) [ptr fb]) (0+j*3+2) [.int .u64 0],true,true,none⟩) _ w' ⟨by simp only;omega,qcu hj' hfb hOj hlt3,hyb,hon.symm.trans hyo⟩ hf (hH.drop 0) (by simp only;omega) ⟨rfl,rfl,rfl,rfl,rfl,rfl,rfl,rfl,rfl,rfl,rfl,rfl,trivial⟩
              |exact fun w' hH hf=>hKLj (j+1,yj) _ w' ⟨by simp only;omega,by rw[← qap hj' hx.tab.f.1 hfu2 ox];exact hOj,hyb,hyo⟩ hf (hH.drop 0) (by simp only;omega) ⟨rfl,rfl,rfl,rfl,rfl,rfl,rfl,rfl,rfl,rfl,rfl,rfl,trivial⟩
        · intro w5 hH5 hf5
          have hOd:Own kq 3 yj pL x.locs[k4].lines.length cL (x.locs[k4].lines.flatMap (qk g.funs)):=by rw[qfq ox]at hOj;exact hOj
          have hkx:jv ([g.locs[k4]]++qG yL) u4 w5:=Hp.keepX ((hH5.drop 0).drop 0) hf5
          have hbl:Blk w5 g.locs[k4] qH (KB g.maps x.locs[k4] (.slice pL x.locs[k4].lines.length cL)):=hH5.get (i:=0) rfl rfl
          have hrw:yj.on=true→Blk w5 yj.b kq yj.cs:=fun ho=>by have h:=hH5.get (i:=1) rfl ho;rw[hOj.hT]at h;exact h
          have hnm:∀{mb:Nat} {ids:List Int} {bs:List Nat},xC u4 mb ids bs→mb∉[g.locs[k4]]++qG yL:=fun h=>qiV (h.neB hst) fun ho=>h.neB (hyL ho).1
          have hI4w:=hI4.other hkx (hnm hI4)
          obtain ⟨es,ck,hmap,hM⟩:=hI4w.ex
          have hc0:=mc (f:=⟨w5,0,[1000000]⟩) (kC hf5 hpu rfl) rfl
          have hcb:=mc (f:=⟨w5,0,[1000000]⟩) hbl rfl
          refine C.begin ⟨w5,0,[1000000]⟩ (mpE b142 es ck::vh w5 [b142]) jx (Hp.oneMap hmap (Nat.zero_le _) rfl) ?_
          refine jt (K31 (jb (jM (k:=jM (k:=jN (k:=jF 0 vc kU (k:=jL vy hcb 0 (k:=jM (k:=?_)))))))))
          refine xf 0 rfl qbY (xN xu) hM rfl rfl rfl (fun w hH hf=>⟨fun _ _=>trivial,trivial⟩) fun es' ck' hM'=>?_
          refine K27 (jb (jI (k:=jM (k:=jw (ji ?_)))))
          intro w6 hH6 hf6
          have hk6:jv [b142] w5 w6:=Hp.keepX (hH6.drop 0) hf6
          have hkk:=hkx.trans hk6
          have hLQ:ZD B w6 g g.locs[k4] x.locs[k4]:=⟨pL,cL,hk6.blk hbl (by simpa using (hI4w.neB hbl).symm),yj,hOd,fun ho=>⟨hk6.blk (hrw ho) (by simpa using (hI4w.neB (hrw ho)).symm),hyb▸(hyL (hyo▸ho)).2⟩⟩
          have hn3:∀{mb:Nat} {ids:List Int} {bs:List Nat},xC u4 mb ids bs→mb≠b142→mb∉([g.locs[k4]]++qG yL)++[b142]:=fun h hne hm=>by
            rcases mA hm with hm|hm
            · exact hnm h hm
            · exact hne (by simpa using hm)
          obtain ⟨es0,ck0,hmap0, -⟩:=hI4.ex
          exact hKL4 (k4+1) _ w6 ⟨hk',hP4.s4 (rb:=yL.b) hR.nlocs hbe hxe hBb hst (rows4 hm3F hmap0 hyL) hkk hLQ,hI3.other hkk (hn3 hI3 (Nat.ne_of_lt hm13)),hI5.other hkk (hn3 hI5 (Nat.ne_of_lt hm23)),xC.step (ids:=x.locs.map (·.id)) (id:=x.locs[k4].id) (by simpa using hR.locs.1) hx.tab.l.2.1 (by simp[hk']) hbe (hH6.obj (i:=0) rfl rfl) hM'⟩ (by first|omega|(simp only;omega)) ⟨rfl,rfl,rfl,rfl,rfl,rfl,rfl,rfl,trivial⟩
      · have hke4:k4=x.locs.length:=by omega
        subst hke4
        rw[tL zp,tL (by rw[hR.locs.1];exact Nat.le_refl _)]at hI4
        clear hKL4 hk4 h149
        refine jt (K23 (sQ fun K42=>sQ fun K43=>jb (jM (k:=jN (k:=jF 0 jz JA (k:=jL Qx hc0 0 (k:=jE zV (k:=jM (k:=K43 (CJ.t [(0,_),(3,_),(10,_),(220,_),(221,_),(222,_)] (k:=jh ?_)))))))))))
        intro v1 hH1' hf1'
        have hQ1:=hP4.keep (jv.of hf1')
        have hI4':=hI4.keep (yo hf1' rfl)
        clear hH1'
        refine vk (σ:=Nat) (fun s=>[(0,ptr g.pb),(3,.nilIface),(10,.map (some b142)),(220,.slice p1 x.types.length c1),(221,.int .i64 (x.types.length:Nat)),(222,.int .i64 (s:Nat))])
          (fun s w'=>s≤x.types.length∧QS B w T x g s 0 x.mappings.length x.locs.length x.funcs.length w'∧xC w' b142 (x.locs.map (·.id)) g.locs) (fun s=>x.types.length - s) 0 sR ⟨Nat.zero_le _,hQ1,hI4'⟩ ?_
        rintro k1 u1 ⟨hk1,hP1,hI4⟩ KL1 hKL1
        try dsimp only at hk1 hP1 hI4
        have hc0:=mc (f:=⟨u1,0,[]⟩) (jk hP1.fr rfl _ _ hpf) rfl
        refine C.begin ⟨u1,0,[]⟩ [] jx .nil ?_
        try dsimp only
        refine sQ fun K44=>jb (jS (k:=K44 (sQ fun K45=>?_)))
        refine jq rfl (fun h223=>?_) (fun h223=>?_)
        · have hk':k1<x.types.length:=by omega
          obtain ⟨bq,rfl,hsq⟩:=hx1 ox
          have hkb:k1<g.types.length:=by rw[hR.types.1];exact hk'
          have hbe:g.types[k1]? =some g.types[k1]:=gE hkb
          have hxe:x.types[k1]? =some x.types[k1]:=gE hk'
          have hxm:x.types[k1]∈x.types:=List.getElem_mem hk'
          have hbm:g.types[k1]∈g.types:=List.getElem_mem hkb
          obtain ⟨nf,nb,hst,hat1,hat2⟩:=(hP1.pt _ _ _ hbe hxe).2 (Nat.le_refl _)
          have hcell:=Kq (k:=k1) (v:=ptr g.types[k1]) (W1:=[tVT]) hP1.fr rfl rfl hsq (by simp[hkb])
          have hc0:=mc (f:=⟨u1,0,[tVT]⟩) (jk hP1.fr rfl _ _ hpf) rfl
          have htU:OS qc 1 u1 (.slice p6 T.length c6) (T.map .string):=htab.mono (jk hP1.fr rfl)
          refine CJ.turnW (W:=[tVT]) (Hp.one hst (Nat.zero_le _) rfl) ?_
          refine jg (K45 (sQ fun K46=>jh (sQ fun K47=>jb (jJ zV yO (k:=jL Jp hcell 0 (k:=jA (k:=K47 (sQ fun K48=>?_))))))))
          refine jC 17 (lts [0,1,2,3,4,5,6,7,8]++(9,false)::(lts [10,11,12,13,14]++(15,false)::lts [16])) [] rfl (by kernel_rfl) (by kernel_rfl) (dM [] (k:=dM [] (k:=dN [] (k:=dF [] 16 jz xH (k:=dL [] yv hc0 16 (k:=dM [] (k:=dN [] (k:=dF [] 2 xF so2 (k:=dM [] (k:=dE (h:=fun Kd=>?_)))))))))))
          refine Jf 0 rfl rfl rfl rfl rfl hat1 htU rfl rfl hl rfl rfl ?_
          refine Kd (sb []) (dM [] (k:=?_))
          refine jo rfl rfl (jd [] rfl) (fun _ _ h=>qt rfl rfl h) (jo rfl rfl (jd [] rfl) (fun _ _ h=>qt rfl rfl h) (dN [] (k:=dF [] 0 xF so9 (k:=dE (h:=fun Kd=>jB [_,_,_,_] (_::_) 0 so9 (k:=Kd (sb []) (dA [] (k:=K48 (CJ.t [(0,_),(3,_),(10,_),(17,_),(220,_),(221,_),(222,_)] (k:=?_))))))))))
          refine jC 17 (lts [0,1,2,3,4,5,6,7,8]++(9,false)::(lts [10,11,12,13,14]++(15,false)::lts [16])) [] rfl (by kernel_rfl) (by kernel_rfl) (dM [] (k:=dM [] (k:=dN [] (k:=dF [] 16 jz xH (k:=dL [] yv hc0 16 (k:=dM [] (k:=dN [] (k:=dF [] 3 xF so2 (k:=dM [] (k:=dE (h:=fun Kd=>?_)))))))))))
          refine Jf 0 rfl rfl rfl rfl rfl hat2 htU rfl rfl hl rfl rfl ?_
          refine Kd (sb []) (dM [] (k:=?_))
          refine jo rfl rfl (jd [] rfl) (fun _ _ h=>qt rfl rfl h) (jo rfl rfl (jd [] rfl) (fun _ _ h=>qt rfl rfl h) (dN [] (k:=dF [] 1 xF so9 (k:=dE (h:=fun Kd=>jB [_,_,_,_] (_::_) 0 so9 (k:=Kd (sb []) (dA [] (k:=K46 (CJ.t [(0,_),(3,_),(10,_),(220,_),(221,_),(222,_)] (k:=jb (jI (k:=jM (k:=jw ?_)))))))))))))
          refine ji ?_
          exact fun w' hH hf=>hKL1 (k1+1) _ w' ⟨hk',hP1.s1 (L:=[g.types[k1]]) hR.ntypes hbe hxe (hR.fresh.1 _ hbm) hst (Hp.keepX (l:=[g.types[k1]]) (hH.drop 0) hf) (qkL rfl) (hH.get (i:=0) rfl rfl),hI4.other (Hp.keepX (l:=[g.types[k1]]) (hH.drop 0) hf) (by simpa using hI4.neB hst)⟩ (by first|omega|(simp only;omega)) ⟨rfl,rfl,rfl,rfl,rfl,rfl,trivial⟩
        · have hke1:k1=x.types.length:=by omega
          subst hke1
          clear hKL1 hk1 h223
          refine jt (K42 (sQ fun K49=>sQ fun K50=>jb (jM (k:=jN (k:=jF 2 jz Jz (k:=jL VP hc0 2 (k:=jE JB (k:=jM (k:=K50 (jh ?_))))))))))
          intro v2 hH2' hf2'
          have hQ2:=hP1.keep (jv.of hf2')
          have hI4':=hI4.keep (yo hf2' rfl)
          clear hH2'
          refine vk (σ:=Nat) (fun s=>[(0,ptr g.pb),(3,.nilIface),(10,.map (some b142)),(260,.slice p2 x.samples.length c2),(261,.int .i64 (x.samples.length:Nat)),(262,.int .i64 (s:Nat))])
            (fun s w'=>s≤x.samples.length∧QS B w T x g x.types.length s x.mappings.length x.locs.length x.funcs.length w'∧xC w' b142 (x.locs.map (·.id)) g.locs) (fun s=>x.samples.length - s) 0 sR ⟨Nat.zero_le _,hQ2,hI4'⟩ ?_
          rintro k2 u2 ⟨hk2,hP2,hI4⟩ KL2 hKL2
          try dsimp only at hk2 hP2 hI4
          have hc0:=mc (f:=⟨u2,0,[]⟩) (jk hP2.fr rfl _ _ hpf) rfl
          refine C.begin ⟨u2,0,[]⟩ [] jx .nil ?_
          try dsimp only
          refine sQ fun K51=>jb (jS (k:=K51 (sQ fun K52=>?_)))
          refine jq rfl (fun h263=>?_) (fun h263=>?_)
          · have hk':k2<x.samples.length:=by omega
            obtain ⟨bq,rfl,hsq⟩:=hx2 ox
            have hkb:k2<g.sams.length:=by rw[hR.sams.1];exact hk'
            have hbe:g.sams[k2]? =some g.sams[k2]:=gE hkb
            have hxe:x.samples[k2]? =some x.samples[k2]:=gE hk'
            have hxm:x.samples[k2]∈x.samples:=List.getElem_mem hk'
            have hbm:g.sams[k2]∈g.sams:=List.getElem_mem hkb
            obtain ⟨pv,cv,pi,ci,pl,cl,lbs,es,hst,hrv,hri,hrl,hLQ,hLS,hel⟩:=(hP2.ps _ _ _ hbe hxe).2 (Nat.le_refl _)
            obtain ⟨-, -,hs60, -,hsk⟩:=hx.samples _ hxm
            have hBb:B≤g.sams[k2]:=hR.fresh.2.2.2.2 _ hbm
            have hcell:=Kq (k:=k2) (v:=ptr g.sams[k2]) (W1:=[]) hP2.fr rfl rfl hsq (by simp[hkb])
            have hpu:Blk u2 g.pb ju _:=jk hP2.fr rfl _ _ hpf
            have hcs:=mc (f:=⟨u2,0,[]⟩) hst rfl
            have htU:OS qc 1 u2 (.slice p6 T.length c6) (T.map .string):=htab.mono (jk hP2.fr rfl)
            refine jg (K52 (sQ fun K53=>jh (sQ fun K54=>jb (jJ JB YT (k:=jL qcV hcell 0 (k:=jA (k:=K54 (sQ fun K55=>jb ?_))))))))
            refine zO (fun _ h=>by cases h) rfl fun b266=>?_
            refine jA (k:=K55 (sQ fun K56=>jb ?_))
            refine zO (fun _ h=>by cases h) rfl fun b267=>?_
            refine jA (k:=K56 (sQ fun K57=>sQ fun K58=>jb (jM (k:=jN (k:=jF 6 vl JV (k:=jL ZA hcs 6 (k:=jE Qu (k:=jM (k:=K58 (CJ.t [(0,_),(3,_),(10,_),(19,_),(20,_),(21,_),(260,_),(261,_),(262,_),(271,_),(272,_),(273,_)] (k:=jh ?_)))))))))))
            intro v6 hH6' hf6'
            have hk6:=jv.of hf6'
            have hLT6:LM qc .string u2.heap.size v6 b266 (Jw (es.take 0)):=LM.nil (hH6'.obj (i:=1) rfl rfl)
            have hLN6:LM qd (.int .i64) u2.heap.size v6 b267 (Jx (es.take 0)):=LM.nil (hH6'.obj (i:=0) rfl rfl)
            have hm1:u2.heap.size≤b266:=hH6'.freshX (i:=1) rfl rfl rfl
            have hm2:u2.heap.size≤b267:=hH6'.freshX (i:=0) rfl rfl rfl
            have hmne:b266≠b267:=hH6'.2.2.1 rfl _ (List.Mem.head _) rfl
            clear hH6'
            refine vk (σ:=Nat) (fun s=>[(0,ptr g.pb),(3,.nilIface),(10,.map (some b142)),(19,ptr g.sams[k2]),(20,.map (some b266)),(21,.map (some b267)),(260,.slice (some ⟨bq,0,none⟩) x.samples.length c2),(261,.int .i64 (x.samples.length:Nat)),(262,.int .i64 (k2:Nat)),(271,.slice pl es.length cl),(272,.int .i64 (es.length:Nat)),(273,.int .i64 (s:Nat))])
              (fun s w'=>s≤es.length∧jv [] u2 w'∧LM qc .string u2.heap.size w' b266 (Jw (es.take s))∧LM qd (.int .i64) u2.heap.size w' b267 (Jx (es.take s))) (fun s=>es.length - s) 0 sR ⟨Nat.zero_le _,hk6,hLT6,hLN6⟩ ?_
            clear hk6 hLT6 hLN6 hf6'
            rintro j u6 ⟨hj,hk6,hLT6,hLN6⟩ KL6 hKL6
            try dsimp only at hj hk6 hLT6 hLN6
            have hpu6:Blk u6 g.pb ju _:=hk6.blk hpu zp
            have hc0:=mc (f:=⟨u6,0,[]⟩) hpu6 rfl
            refine C.begin ⟨u6,0,[]⟩ [] jx .nil ?_
            try dsimp only
            refine sQ fun K59=>jb (jS (k:=K59 (sQ fun K60=>?_)))
            refine jq rfl (fun h274=>?_) (fun h274=>?_)
            · have hj':j<es.length:=by omega
              obtain ⟨msT,esT,ckT,rowT,hT⟩:=hLT6
              obtain ⟨msN,esN,ckN,rowN,hN⟩:=hLN6
              obtain ⟨yT,pT,cT,hgT,hOT,hyT,hnT⟩:=hT.look es[j].1
              obtain ⟨yN,pN,cN,hgN,hON,hyN,hnN⟩:=hN.look es[j].1
              have hlT:(Jw (es.take j) es[j].1).length≤1000000:=by have:=qhx (es.take j) es[j].1;simp at this;omega
              have hlN:(Jx (es.take j) es[j].1).length≤1000000:=by have:=qhy (es.take j) es[j].1;simp at this;omega
              have hjl:j<lbs.length:=by rw[hLQ.1];exact hj'
              obtain ⟨hq1,hq2⟩:=hLQ.2 j _ _ (gE hjl) (gE hj')
              obtain ⟨lb,rfl,hlc⟩:=OS.openS (hrl.os.mono fun b cs hb=>hk6.blk hb zp) ox
              have hcl:∀w',Fm.ok ⟨u6,0,[1000000,qc,qd]⟩ w'→∀(i:Nat) (u:Value),(cLb lbs[j])[i]? =some u→w'.cell? ⟨lb,0+j*3+i,none⟩=some u:=fun w' hf i u hu=>by rw[Nat.zero_add];exact hlc ⟨u6,0,[1000000,qc,qd]⟩ rfl rfl w' hf _ _ (xg (c:=cLb) (sz:=3) (fun _=>rfl) (gE hjl) i u hu)
              have hc0:=mc (f:=⟨u6,0,[1000000,qc,qd]⟩) hpu6 rfl
              have hLy:∀c∈[b266,b267]++qG yT++qG yN,c=b266∨c=b267∨(yT.on=true∧c=yT.b)∨(yN.on=true∧c=yN.b):=lab_L
              have hLge:∀c∈[b266,b267]++qG yT++qG yN,u2.heap.size≤c:=fun c hc=>by
                rcases hLy c hc with rfl|rfl|⟨h3,rfl⟩|⟨h3,rfl⟩
                · exact hm1
                · exact hm2
                · exact (hyT h3).2
                · exact (hyN h3).2
              have htab6:∀w',Hp ⟨u6,0,[1000000,qc,qd]⟩ w' (vh u6 ([b266,b267]++qG yT++qG yN))→Fm.ok ⟨u6,0,[1000000,qc,qd]⟩ w'→OS qc 1 w' (.slice p6 T.length c6) (T.map .string):=fun w' hH hf=>OS.young htU hk6 (Hp.keepX hH hf) hLge
              refine CJ.turnW (W:=[1000000,qc,qd]) (Hp.labs hT.hm hN.hm hmne hOT hON (fun ho=>(hyT ho).1) (fun ho=>(hyN ho).1) dq rfl rfl rfl) ?_
              refine jg (K60 (sQ fun K61=>jh (sQ fun K62=>jb (jJ Qu Qt (k:=?_)))))
              refine jp rfl (fun a w ha hH hf=>kD (vs:=cLb lbs[j]) qeK Qt rfl rfl (hcl w hf) ha) (jW (zs:=[(.int .i64 0),(.int .i64 0),(.int .i64 0)]) qbF rfl fun b23=>jB [_,_,_] (_::_::_::_::_::_) 0 Qt (k:=K62 (sQ fun K63=>jb (jA (k:=jA (k:=K63 (sQ fun K64=>jb (jM (k:=jN (k:=jF 16 jz xH (k:=?_)))))))))))
              refine jL yv hc0 16 (k:=jF 0 QO so2 (k:=jM (k:=?_)))
              refine qbm 0 rfl rfl rfl rfl rfl hq1 (fun w hH hf=>htab6 w (((((hH.drop 0).drop 0).drop 0).drop 0).drop 0) hf) rfl hl rfl rfl ?_
              refine jM (k:=jX (k:=jX (k:=jA (k:=jA (k:=K64 (CJ.t [(0,_),(3,_),(10,_),(19,_),(20,_),(21,_),(23,_),(24,_),(260,_),(261,_),(262,_),(271,_),(272,_),(273,_)] (k:=sQ fun K65=>jb (jF 1 QO so2 (k:=jH 0 ag2 (k:=?_))))))))))
              refine jn rfl (fun _ _ h=>yQ rfl rfl h) (K65 ?_)
              refine jq rfl (fun hq=>?_) (fun hq=>?_)
              · obtain ⟨v,hv,hqv⟩:=qhl hq2 hq
                refine sQ fun K66=>jb (jM (k:=jN (k:=jF 16 jz xH (k:=jL yv hc0 16 (k:=jF 1 QO so2 (k:=jM (k:=?_)))))))
                refine qbm 0 rfl rfl rfl rfl rfl hqv (fun w hH hf=>htab6 w (((((hH.drop 0).drop 0).drop 0).drop 0).drop 0) hf) rfl hl rfl rfl ?_
                refine jM (k:=jX (k:=jX (k:=jA (k:=jA (k:=K66 (CJ.t [(0,_),(3,_),(10,_),(19,_),(20,_),(21,_),(24,_),(25,_),(260,_),(261,_),(262,_),(271,_),(272,_),(273,_)] (k:=jb (jM (k:=jM (k:=jM (k:=jM (k:=?_))))))))))))
                refine jp rfl (fun a w ha hH hf=>qcf 1 rfl VH (qR ru9) hT.hM zv27 rfl rfl (fun _ _ _=>⟨fun _ _=>trivial,trivial⟩) ha hH hf) ?_
                refine jV hgT ?_
                refine jM (k:=?_)
                refine kj vG so9 zv9 rfl rfl rfl rfl rfl fun b306=>?_
                refine zo 3 rfl hOT vG el9 rfl rfl rfl rfl ox rfl fun y8 p8 c8 hO8 hc8 hr8=>?_
                refine xf 1 rfl VH (qR ru9) hT.hM rfl rfl rfl (fun _ _ _=>⟨fun _ _=>trivial,trivial⟩) fun es' ck' hM'=>?_
                refine K61 (jb (jI (k:=jM (k:=jw (ji ?_)))))
                intro w' hH hf
                have hkk:=Hp.keepX (f:=⟨u6,0,[1000000,qc,qd]⟩) (((((hH.drop 0).drop 0).drop 0).drop 0).drop 0) hf
                have hon8:=(hO8.pos ox).1
                first
                  |(have hb8:=hH.get (i:=3) rfl hon8
                    rw[hO8.hT]at hb8
                    obtain ⟨g1,g2,g3⟩:=Vn (k:=es[j].1) (v:=v) (es':=es') (ck':=ck') (y8:=y8) hT hN dq hm1 hm2 hk6 hyT hnT hyN hLy hkk (hH.obj (i:=1) rfl rfl) (hH.obj (i:=2) rfl rfl) (fun ho=>by have h:=hH.get (i:=4) rfl ho;rw[hON.hT]at h;exact h) hM' hO8 hb8 hr8
                    exact hKL6 (j+1) _ w' ⟨hj',g1,g2.congr (qat hj' hv),g3.congr (qau hj' hv)⟩ (by first|omega|(simp only;omega)) ⟨rfl,rfl,rfl,rfl,rfl,rfl,rfl,rfl,rfl,rfl,rfl,rfl,trivial⟩)
                  |(have hb8:=hH.get (i:=4) rfl hon8
                    rw[hO8.hT]at hb8
                    rw[hqv]at hO8
                    obtain ⟨g1,g2,g3⟩:=Vn (k:=es[j].1) (v:=es[j].2.2) (es':=es') (ck':=ck') (y8:=y8) hN hT dq hm2 hm1 hk6 hyN hnN hyT (fun c hc=>qhu (hLy c hc)) hkk (hH.obj (i:=2) rfl rfl) (hH.obj (i:=1) rfl rfl) (fun ho=>by have h:=hH.get (i:=3) rfl ho;rw[hOT.hT]at h;exact h) hM' hO8 hb8 hr8
                    exact hKL6 (j+1) _ w' ⟨hj',g1,g3.congr (qcw hj' hv),g2.congr (qcy hj' hv)⟩ (by first|omega|(simp only;omega)) ⟨rfl,rfl,rfl,rfl,rfl,rfl,rfl,rfl,rfl,rfl,rfl,rfl,trivial⟩)
              · obtain ⟨hv,hqv⟩:=qjo hq2 (Decidable.not_not.1 hq)
                refine jb (jM (k:=jM (k:=jM (k:=jM (k:=?_)))))
                refine jp rfl (fun a w ha hH hf=>qcf 2 rfl VG (qR ru9) hN.hM zv53 rfl rfl (fun _ _ _=>⟨fun _ _=>trivial,trivial⟩) ha hH hf) ?_
                refine jV hgN ?_
                refine jF 2 QO so2 (k:=jH 0 ag2 (k:=?_))
                refine kj xI so2 zv2 rfl rfl rfl rfl rfl fun b315=>?_
                refine zo 4 rfl hON xI el2 rfl rfl rfl rfl ox rfl fun y8 p8 c8 hO8 hc8 hr8=>?_
                refine xf 2 rfl VG (qR ru9) hN.hM rfl rfl rfl (fun _ _ _=>⟨fun _ _=>trivial,trivial⟩) fun es' ck' hM'=>?_
                refine K61 (CJ.t [(0,_),(3,_),(10,_),(19,_),(20,_),(21,_),(260,_),(261,_),(262,_),(271,_),(272,_),(273,_)] (k:=jb (jI (k:=jM (k:=jw (ji ?_))))))
                intro w' hH hf
                have hkk:=Hp.keepX (f:=⟨u6,0,[1000000,qc,qd]⟩) (((((hH.drop 0).drop 0).drop 0).drop 0).drop 0) hf
                have hon8:=(hO8.pos ox).1
                first
                  |(have hb8:=hH.get (i:=3) rfl hon8
                    rw[hO8.hT]at hb8
                    obtain ⟨g1,g2,g3⟩:=Vn (k:=es[j].1) (v:=v) (es':=es') (ck':=ck') (y8:=y8) hT hN dq hm1 hm2 hk6 hyT hnT hyN hLy hkk (hH.obj (i:=1) rfl rfl) (hH.obj (i:=2) rfl rfl) (fun ho=>by have h:=hH.get (i:=4) rfl ho;rw[hON.hT]at h;exact h) hM' hO8 hb8 hr8
                    exact hKL6 (j+1) _ w' ⟨hj',g1,g2.congr (qat hj' hv),g3.congr (qau hj' hv)⟩ (by first|omega|(simp only;omega)) ⟨rfl,rfl,rfl,rfl,rfl,rfl,rfl,rfl,rfl,rfl,rfl,rfl,trivial⟩)
                  |(have hb8:=hH.get (i:=4) rfl hon8
                    rw[hO8.hT]at hb8
                    rw[hqv]at hO8
                    obtain ⟨g1,g2,g3⟩:=Vn (k:=es[j].1) (v:=es[j].2.2) (es':=es') (ck':=ck') (y8:=y8) hN hT dq hm2 hm1 hk6 hyN hnN hyT (fun c hc=>qhu (hLy c hc)) hkk (hH.obj (i:=2) rfl rfl) (hH.obj (i:=1) rfl rfl) (fun ho=>by have h:=hH.get (i:=3) rfl ho;rw[hOT.hT]at h;exact h) hM' hO8 hb8 hr8
                    exact hKL6 (j+1) _ w' ⟨hj',g1,g3.congr (qcw hj' hv),g2.congr (qcy hj' hv)⟩ (by first|omega|(simp only;omega)) ⟨rfl,rfl,rfl,rfl,rfl,rfl,rfl,rfl,rfl,rfl,rfl,rfl,trivial⟩)
            · intro w7 hH7 hf7
              have hje:j=es.length:=by omega
              subst hje
              rw[tL (Nat.le_refl _)]at hLT6 hLN6
              have hk7:jv [] u2 w7:=hk6.thenF hf7
              have hLT7:LM qc .string u2.heap.size w7 b266 (Jw es):=hLT6.fr hf7
              have hLN7:LM qd (.int .i64) u2.heap.size w7 b267 (Jx es):=hLN6.fr hf7
              clear hLT6 hLN6 hKL6 hj h274 hH7
              obtain ⟨ckT,esT,hmT⟩:=hLT7.map
              obtain ⟨ckN,esN,hmN⟩:=hLN7.map
              have hst7:=hk7.blk hst zp
              have hpu7:Blk w7 g.pb ju _:=hk7.blk hpu zp
              refine C.begin ⟨w7,0,[kY]⟩ (_::vh w7 [g.sams[k2]]) jx (Hp.one hst7 (Nat.zero_le _) rfl) ?_
              refine jt (K57 (qP fun K67 hK67=>?_))
              have hJ320:∀v' lt,jv [g.sams[k2]] w7 v'→Blk v' g.sams[k2] kY [.slice none 0 0,.slice pv x.samples[k2].values.length cv,lt,.map none,.map none,.slice pi x.samples[k2].stack.length ci,.slice pl es.length cl]→Qb qc .string w7 lt (fT x.samples[k2])→N K67 489 [(0,ptr g.pb),(3,.nilIface),(10,.map (some b142)),(19,ptr g.sams[k2]),(21,.map (some b267)),(260,.slice (some ⟨bq,0,none⟩) x.samples.length c2),(261,.int .i64 (x.samples.length:Nat)),(262,.int .i64 (k2:Nat))] v':=by
                rintro v8 lt hk8 hb8 hlt
                refine hK67 ⟨v8,0,[kY]⟩ _ (_::vh v8 [g.sams[k2]]) ?_ v8 (Hp.one hb8 (Nat.zero_le _) rfl) jx
                have hmN8:=hk8.keep _ _ hmN (by simpa using Kt hmN hst7)
                refine qP fun K68 hK68=>?_
                have hJ327:∀v' ln,jv [g.sams[k2]] v8 v'→Blk v' g.sams[k2] kY [.slice none 0 0,.slice pv x.samples[k2].values.length cv,lt,ln,.map none,.slice pi x.samples[k2].stack.length ci,.slice pl es.length cl]→Qb qd (.int .i64) w7 ln (fN x.samples[k2])→N K68 489 [(0,ptr g.pb),(3,.nilIface),(10,.map (some b142)),(19,ptr g.sams[k2]),(260,.slice (some ⟨bq,0,none⟩) x.samples.length c2),(261,.int .i64 (x.samples.length:Nat)),(262,.int .i64 (k2:Nat))] v':=by
                  rintro v9 ln hk9 hb9 hlb
                  have hk29:jv [g.sams[k2]] u2 v9:=((hk7.mono zp).trans' hk8).trans' hk9
                  have hbu:∀{T0:Nat} {c:Nat} {ds:List Value},Nat.beq T0 kY=false→Blk u2 c T0 ds→Blk v9 c T0 ds:=fun hT hb=>hk29.blk hb (by simpa using hb.ne hst (fun e=>by rw[e]at hT;simp at hT))
                  have hci:=OS.openS (hri.os.mono fun b cs hb=>hbu rfl hb)
                  have hIv:xC v9 b142 (x.locs.map (·.id)) g.locs:=hI4.other hk29 (by simpa using hI4.neB hst)
                  have hMl:∀(z:Int),z<x.locs.length→∀w',Fm.ok ⟨v9,0,[kY]⟩ w'→ZC (Value.int .u64) b142 (lid x z) (.pointer none) (qe g.locs z) w':=fun z hz w' hf=>(hIv.keep (yo hf rfl)).has (by simpa using hR.locs.1.symm) hx.tab.l.1 hx.tab.l.2.1 (by simpa using hz)
                  refine hK68 ⟨v9,0,[kY]⟩ _ (_::vh v9 [g.sams[k2]]) ?_ v9 (Hp.one hb9 (Nat.zero_le _) rfl) jx
                  refine sQ fun K69=>jb (jM (k:=jN (k:=jF 0 vl xq (k:=jB [_,_,_,_,_,_,_] (_::_) 0 xq (k:=K69 (sQ fun K70=>sQ fun K71=>jb (jM (k:=jN (k:=jF 5 vl XH (k:=jH 0 qgf (k:=?_)))))))))))
                  refine jE zm (k:=jM (k:=K71 (jh ?_)))
                  refine jZ (σ:=Nat×Ent×Option Addr×Nat) (fun s=>[(0,ptr g.pb),(3,.nilIface),(10,.map (some b142)),(19,ptr g.sams[k2]),(260,.slice (some ⟨bq,0,none⟩) x.samples.length c2),(261,.int .i64 (x.samples.length:Nat)),(262,.int .i64 (k2:Nat)),(338,.slice pi x.samples[k2].stack.length ci),(339,.int .i64 (x.samples[k2].stack.length:Nat)),(340,.int .i64 (s.1:Nat))])
                    (fun s=>s.2.1::⟨g.sams[k2],kY,[.slice s.2.2.1 s.1 s.2.2.2,.slice pv x.samples[k2].values.length cv,lt,ln,.map none,.slice pi x.samples[k2].stack.length ci,.slice pl es.length cl],true,true,none⟩::vh v9 [g.sams[k2]])
                    (fun s _=>s.1≤x.samples[k2].stack.length∧Own vD 1 s.2.1 s.2.2.1 s.1 s.2.2.2 ((x.samples[k2].stack.take s.1).map (qe g.locs))) (fun s=>x.samples[k2].stack.length - s.1)
                    (0,qQ vD,none,0) sR (fun w' hH hf=>⟨hH.off,Nat.zero_le _,Own.nil⟩) ?_
                  rintro ⟨m,ym,pm,cm⟩ wm ⟨hm,hOm⟩ hfm hHm KLm hKLm
                  try dsimp only at hm hOm
                  refine C.begin _ _ hfm hHm ?_
                  try dsimp only
                  refine sQ fun K72=>jb (jS (k:=K72 (sQ fun K73=>?_)))
                  refine jq rfl (fun h341=>?_) (fun h341=>?_)
                  · have hm':m<x.samples[k2].stack.length:=by omega
                    obtain ⟨bi,rfl,hcx⟩:=hci ox
                    obtain ⟨hz0,hzl⟩:=hsk _ (List.getElem_mem hm')
                    have hci1:∀w',Fm.ok ⟨v9,0,[kY]⟩ w'→w'.cell? ⟨bi,0+m*1,none⟩=some (.int .u64 (lid x x.samples[k2].stack[m])):=fun w' hf=>by
                      have h:=hcx ⟨v9,0,[kY]⟩ rfl rfl w' hf m (.int .u64 (lid x x.samples[k2].stack[m])) (by rw[List.getElem?_map,gE hm'];rfl)
                      simpa using h
                    refine jg (K73 (sQ fun K74=>jh (sQ fun K75=>jb (jJ zm kU (k:=?_)))))
                    refine jp rfl (fun a w ha hH hf=>kP vy rfl (hci1 w hf) ha) (jA (k:=K75 ?_))
                    refine jC 12 (lts [0,1,2,3,4,5,6,7]++(8,false)::((9,false)::(lts [10,11]++(12,false)::[]))) [1] rfl (by kernel_rfl) (by kernel_rfl) (dM [1] (k:=dM [1] (k:=dN [1] (k:=dF [1] 0 vl xq (k:=dH [1] 0 zY (k:=dM [1] (k:=dM [1] (k:=?_))))))))
                    refine vV rfl rfl (jd [1] rfl) (fun a w ha hS=>Ko qbY (xN xu) YM rfl rfl ha (hMl _ hzl w hS.2)) (dE (h:=fun Kd=>kj xw JW YM rfl rfl rfl rfl rfl fun b352=>Kd (sb [2]) (dE (h:=fun Kd=>?_))))
                    refine qY 0 rfl hOm xw qay rfl rfl rfl rfl rfl ox rfl fun y353 p353 c353 hO353=>?_
                    refine Kd (sb [1]) (dN [1] (k:=dF [1] 0 vl xq (k:=dE (h:=fun Kd=>jB [_,_,_,_,_,_,_] (_::_::_) 1 xq (k:=Kd (.inl rfl) (K74 (CJ.t [(0,_),(3,_),(10,_),(19,_),(260,_),(261,_),(262,_),(338,_),(339,_),(340,_)] (k:=jb (jI (k:=jM (k:=jw (ji ?_))))))))))))
                    exact fun w' hH hf=>hKLm (m+1,y353,p353,c353) _ w' ⟨hm',by rw[← tG hm',List.map_append];exact hO353⟩ hf hH (by simp only;omega) sR
                  · have hme:m=x.samples[k2].stack.length:=by omega
                    rw[tL ox]at hOm
                    refine jt (K70 (jb (jM (k:=jN (k:=jF 5 vl XH (k:=jB [_,_,_,_,_,_,_] (_::_::_) 1 XH (k:=K53 (jb (jI (k:=jM (k:=jw (ji ?_))))))))))))
                    intro w10 hH hf
                    have hk10:jv [g.sams[k2]] v9 w10:=Hp.keepX ((hH.drop 0).drop 0) hf
                    have hk210:=hk29.trans' hk10
                    have hk710:jv [g.sams[k2]] w7 w10:=(hk8.trans' hk9).trans' hk10
                    have kr:∀(T0:Nat),Nat.beq T0 kY=false→∀b cs,Blk w7 b T0 cs→Blk w10 b T0 cs:=fun T0 hT b cs hb=>hk710.blk hb (by simpa using hb.ne hst7 (fun e=>by rw[e]at hT;simp at hT))
                    have km:∀(b:Nat) (es:Array MapEntry) (ck:Nat),w7.heap[b]? =some (.map es ck)→w10.heap[b]? =some (.map es ck):=fun b es ck hb=>hk710.keep _ _ hb (by simpa using Kt hb hst7)
                    have hBv9:B≤v9.heap.size:=by
                      have h1:=hP2.fr.size
                      have h2:=hk29.size
                      have h3:=hpf.lt
                      omega
                    have hSQ:qaJ B w10 g.locs g.sams[k2] x.samples[k2]:=⟨⟨_,_,lt,ln,_,_,hH.get (i:=1) rfl rfl,hOm.os hH (i:=0) rfl,(hrv.os.mono fun b cs hb=>hk7.blk hb zp).mono (kr _ rfl),hlt.mono (kr _ rfl) km,hlb.mono (kr _ rfl) km,rfl,rfl⟩,⟨_,hH.get (i:=1) rfl rfl,qfc hOm hH (i:=0) rfl rfl hBv9⟩⟩
                    exact hKL2 (k2+1) _ w10 ⟨hk',hP2.s2 hR.nsams hbe hxe hBb hst hk210 hSQ,hI4.other hk210 (by simpa using hI4.neB hst)⟩ (by first|omega|(simp only;omega)) ⟨rfl,rfl,rfl,rfl,rfl,rfl,trivial⟩
                clear hK68
                refine sQ fun K76=>jb (jM (k:=?_))
                refine jp rfl (fun a w ha hH hf=>qej VG rfl (yo hf rfl _ _ hmN8) ha) (jG (k:=K76 (CJ.t [(0,_),(3,_),(10,_),(19,_),(21,_),(260,_),(261,_),(262,_),(327,_)] (k:=?_))))
                refine jq rfl (fun hz2=>?_) (fun hz2=>?_)
                · have hlb:Qb qd (.int .i64) w7 (.map (some b267)) (fN x.samples[k2]):=hLN7.lab.congr (ZE.fn hLS)
                  refine jb (jM (k:=jM (k:=jN (k:=jF 3 vl VE (k:=jB [_,_,_,_,_,_,_] (_::_) 0 VE (k:=jw (ji ?_)))))))
                  exact fun v' hH hf=>N.sub' (hJ327 v' _ (Hp.keepX (hH.drop 0) hf) (hH.get (i:=0) rfl rfl) hlb) sR
                · have hlb:Qb qd (.int .i64) w7 (.map none) (fN x.samples[k2]):=Qb.congr (.inl ⟨rfl,hLN7.none hmN ox⟩) (ZE.fn hLS)
                  refine jg (ji ?_)
                  exact fun v' hH hf=>N.sub' (hJ327 v' _ (Hp.keepX (hH.drop 0) hf) (hH.get (i:=0) rfl rfl) hlb) sR
              clear hK67
              refine sQ fun K77=>jb (jM (k:=?_))
              refine jp rfl (fun a w ha hH hf=>qej VH rfl (yo hf rfl _ _ hmT) ha) (jG (k:=K77 ?_))
              refine jq rfl (fun hz1=>?_) (fun hz1=>?_)
              · have hla:Qb qc .string w7 (.map (some b266)) (fT x.samples[k2]):=hLT7.lab.congr (ZE.ft hLS)
                refine jb (jM (k:=jM (k:=jN (k:=jF 2 vl VF (k:=jB [_,_,_,_,_,_,_] (_::_) 0 VF (k:=jw (ji ?_)))))))
                exact fun v' hH hf=>N.sub' (hJ320 v' _ (Hp.keepX (hH.drop 0) hf) (hH.get (i:=0) rfl rfl) hla) sR
              · have hla:Qb qc .string w7 (.map none) (fT x.samples[k2]):=Qb.congr (.inl ⟨rfl,hLT7.none hmT ox⟩) (ZE.ft hLS)
                refine jg (ji ?_)
                exact fun v' hH hf=>N.sub' (hJ320 v' _ (Hp.keepX (hH.drop 0) hf) (hH.get (i:=0) rfl rfl) hla) sR
          · have hke2:k2=x.samples.length:=by omega
            subst hke2
            clear hKL2 hk2 h263 hI4
            intro wA hHA hfA
            have hQA:=hP2.keep (jv.of hfA)
            have hpA:Blk wA g.pb ju _:=jk hQA.fr rfl _ _ hpf
            have htA:OS qc 1 wA (.slice p6 T.length c6) (T.map .string):=htab.mono (jk hQA.fr rfl)
            have hcA:OS qd 1 wA (.slice p7 x.comments.length c7) (cx.map (.int .i64)):=hcom.mono (jk hQA.fr rfl)
            clear hHA hfA hP2
            obtain ⟨pp,rfl⟩:∃pp,vp=.pointer pp:=by
              rcases hR.per with ⟨h, -⟩|⟨h, -⟩
              · exact ⟨_,h⟩
              · exact ⟨_,h⟩
            refine C.begin ⟨wA,0,[ju]⟩ (_::vh wA [g.pb]) jx (Hp.one hpA (Nat.zero_le _) rfl) ?_
            refine jt (K49 (sQ fun K78=>?_))
            refine Zu 17 (lts [0,1,2,3,4,5,6,7,8]++(9,false)::(lts [10,11,12,13,14]++(15,false)::lts [16])) [] rfl (fun w=>w.cell? ⟨g.pb,16,none⟩=some (.slice p6 T.length c6)) (by kernel_rfl) (by kernel_rfl) ?_
            refine qa rfl rfl (jd [] rfl) (fun w hH hf=>(hH.get (i:=0) rfl rfl).cell' rfl) (fun _ _ h=>vm rfl h) (qa rfl rfl (jd [] rfl) (fun w hH hf=>(hH.get (i:=0) rfl rfl).cell' rfl) (fun _ _ h=>vm rfl h) (qa rfl rfl (jd [] rfl) (fun w hH hf=>(hH.get (i:=0) rfl rfl).cell' rfl) (fun _ _ h=>yG rfl h) (qa rfl rfl (jd [] rfl) (fun w hH hf=>(hH.get (i:=0) rfl rfl).cell' rfl) (fun _ _ h=>xR (q:=16) (ft:=27) jz rfl xH rfl h) ?_)))
            refine qdJ rfl rfl (jd [] rfl) (fun w hH hf=>(hH.get (i:=0) rfl rfl).cell' rfl) (fun a w ha hT=>kP yv rfl hT ha) ?_
            refine qa rfl rfl (jd [] rfl) (fun w hH hf=>(hH.get (i:=0) rfl rfl).cell' rfl) (fun _ _ h=>vm rfl h) (qa rfl rfl (jd [] rfl) (fun w hH hf=>(hH.get (i:=0) rfl rfl).cell' rfl) (fun _ _ h=>yG rfl h) (qa rfl rfl (jd [] rfl) (fun w hH hf=>(hH.get (i:=0) rfl rfl).cell' rfl) (fun _ _ h=>xR (q:=14) (ft:=2) jz rfl so2 rfl h) (qa rfl rfl (jd [] rfl) (fun w hH hf=>(hH.get (i:=0) rfl rfl).cell' rfl) (fun _ _ h=>vm rfl h) (Vt rfl fun K2 hK2=>?_))))
            refine Jf 0 rfl rfl rfl rfl (off:=14) rfl hdx htA rfl rfl hl rfl rfl ?_
            refine jw (ji (hK2 _ _ (.inr ⟨(jd [] rfl),(fun w hH hf=>(hH.get (i:=0) rfl rfl).cell' rfl)⟩) ?_));clear hK2 K2
            refine qa rfl rfl (jd [] rfl) (fun w hH hf=>(hH.get (i:=0) rfl rfl).cell' rfl) (fun _ _ h=>vm rfl h) (qa rfl rfl (jd [] rfl) (fun w hH hf=>(hH.get (i:=0) rfl rfl).cell' rfl) (fun _ _ h=>qt rfl rfl h) (qa rfl rfl (jd [] rfl) (fun w hH hf=>(hH.get (i:=0) rfl rfl).cell' rfl) (fun _ _ h=>qt rfl rfl h) (qa rfl rfl (jd [] rfl) (fun w hH hf=>(hH.get (i:=0) rfl rfl).cell' rfl) (fun _ _ h=>yG rfl h) (qa rfl rfl (jd [] rfl) (fun w hH hf=>(hH.get (i:=0) rfl rfl).cell' rfl) (fun _ _ h=>xR (q:=7) (ft:=9) jz rfl so9 rfl h) (Vt rfl fun K2 hK2=>?_)))))
            refine QV (o:=7) 0 rfl rfl rfl rfl so9 rfl rfl rfl rfl (Nat.le_of_ble_eq_true rfl) ?_
            refine jw (ji (hK2 _ _ (.inr ⟨(jd [] rfl),(fun w hH hf=>(hH.get (i:=0) rfl rfl).cell' rfl)⟩) ?_));clear hK2 K2
            refine qa rfl rfl (jd [] rfl) (fun w hH hf=>(hH.get (i:=0) rfl rfl).cell' rfl) (fun _ _ h=>QT rfl h) (K78 (CJ.t [(0,_),(3,_)] (k:=sQ fun K79=>?_)))
            refine Zu 17 (lts [0,1,2,3,4,5,6,7,8]++(9,false)::(lts [10,11,12,13,14]++(15,false)::lts [16])) [] rfl (fun w=>w.cell? ⟨g.pb,16,none⟩=some (.slice p6 T.length c6)) (by kernel_rfl) (by kernel_rfl) ?_
            refine qa rfl rfl (jd [] rfl) (fun w hH hf=>(hH.get (i:=0) rfl rfl).cell' rfl) (fun _ _ h=>vm rfl h) (qa rfl rfl (jd [] rfl) (fun w hH hf=>(hH.get (i:=0) rfl rfl).cell' rfl) (fun _ _ h=>vm rfl h) (qa rfl rfl (jd [] rfl) (fun w hH hf=>(hH.get (i:=0) rfl rfl).cell' rfl) (fun _ _ h=>yG rfl h) (qa rfl rfl (jd [] rfl) (fun w hH hf=>(hH.get (i:=0) rfl rfl).cell' rfl) (fun _ _ h=>xR (q:=16) (ft:=27) jz rfl xH rfl h) ?_)))
            refine qdJ rfl rfl (jd [] rfl) (fun w hH hf=>(hH.get (i:=0) rfl rfl).cell' rfl) (fun a w ha hT=>kP yv rfl hT ha) ?_
            refine qa rfl rfl (jd [] rfl) (fun w hH hf=>(hH.get (i:=0) rfl rfl).cell' rfl) (fun _ _ h=>vm rfl h) (qa rfl rfl (jd [] rfl) (fun w hH hf=>(hH.get (i:=0) rfl rfl).cell' rfl) (fun _ _ h=>yG rfl h) (qa rfl rfl (jd [] rfl) (fun w hH hf=>(hH.get (i:=0) rfl rfl).cell' rfl) (fun _ _ h=>xR (q:=15) (ft:=2) jz rfl so2 rfl h) (qa rfl rfl (jd [] rfl) (fun w hH hf=>(hH.get (i:=0) rfl rfl).cell' rfl) (fun _ _ h=>vm rfl h) (Vt rfl fun K2 hK2=>?_))))
            refine Jf 0 rfl rfl rfl rfl (off:=15) rfl hkx htA rfl rfl hl rfl rfl ?_
            refine jw (ji (hK2 _ _ (.inr ⟨(jd [] rfl),(fun w hH hf=>(hH.get (i:=0) rfl rfl).cell' rfl)⟩) ?_));clear hK2 K2
            refine qa rfl rfl (jd [] rfl) (fun w hH hf=>(hH.get (i:=0) rfl rfl).cell' rfl) (fun _ _ h=>vm rfl h) (qa rfl rfl (jd [] rfl) (fun w hH hf=>(hH.get (i:=0) rfl rfl).cell' rfl) (fun _ _ h=>qt rfl rfl h) (qa rfl rfl (jd [] rfl) (fun w hH hf=>(hH.get (i:=0) rfl rfl).cell' rfl) (fun _ _ h=>qt rfl rfl h) (qa rfl rfl (jd [] rfl) (fun w hH hf=>(hH.get (i:=0) rfl rfl).cell' rfl) (fun _ _ h=>yG rfl h) (qa rfl rfl (jd [] rfl) (fun w hH hf=>(hH.get (i:=0) rfl rfl).cell' rfl) (fun _ _ h=>xR (q:=8) (ft:=9) jz rfl so9 rfl h) (Vt rfl fun K2 hK2=>?_)))))
            refine QV (o:=8) 0 rfl rfl rfl rfl so9 rfl rfl rfl rfl (Nat.le_of_ble_eq_true rfl) ?_
            refine jw (ji (hK2 _ _ (.inr ⟨(jd [] rfl),(fun w hH hf=>(hH.get (i:=0) rfl rfl).cell' rfl)⟩) ?_));clear hK2 K2
            refine qa rfl rfl (jd [] rfl) (fun w hH hf=>(hH.get (i:=0) rfl rfl).cell' rfl) (fun _ _ h=>QT rfl h) (K79 (CJ.t [(0,_),(3,_)] (k:=?_)))
            refine qP fun K80 hK80=>?_
            have hJ396:∀v' p9,jv [g.pb] wA v'→Blk v' g.pb ju [.slice p1 x.types.length c1,.string eB,.slice p2 x.samples.length c2,.slice p3 x.mappings.length c3,.slice p4 x.locs.length c4,.slice p5 x.funcs.length c5,.slice none 0 0,.string x.drop,.string x.keep,.int .i64 x.time,.int .i64 x.dur,ptr p9,.int .i64 x.period,.slice p7 x.comments.length c7,.int .i64 0,.int .i64 0,.slice p6 T.length c6,.int .i64 sx]→(∃n m,Blk v' p9 tVT [.string eB,.string eB,.int .i64 n,.int .i64 m]∧At T n x.per.ty∧At T m x.per.unit)∧B≤p9∧p9∉g.types→N K80 489 [(0,ptr g.pb),(3,.nilIface)] v':=by
              rintro v8 p9 hk8 hb8 ⟨⟨n9,m9,hv8,hn9,hm9⟩,hB9,hnt9⟩
              have htA8:OS qc 1 v8 (.slice p6 T.length c6) (T.map .string):=htA.mono fun b cs hb=>hk8.blk hb (by simpa using hb.ne hpA dq)
              have hcA8:OS qd 1 v8 (.slice p7 x.comments.length c7) (cx.map (.int .i64)):=hcA.mono fun b cs hb=>hk8.blk hb (by simpa using hb.ne hpA dq)
              have hcx8:=OS.openS hcA8
              refine hK80 ⟨v8,0,[ju,tVT]⟩ _ (_::_::vh v8 [g.pb,p9]) ?_ v8 (Hp.pair hb8 hv8 dq rfl rfl) jx
              refine sQ fun K81=>sQ fun K82=>jb (jM (k:=jN (k:=jF 11 jz yO (k:=jH 0 Jp (k:=jA (k:=K82 (sQ fun K83=>jb (jM (k:=?_)))))))))
              refine jn rfl (fun _ _ h=>zJ YO rfl h) (K83 (ql rfl (sQ fun K84=>jC 17 (lts [0,1,2,3,4,5,6,7,8]++(9,false)::(lts [10,11,12,13,14]++(15,false)::lts [16])) [0] rfl (by kernel_rfl) (by kernel_rfl) (dM [0] (k:=dM [0] (k:=dN [0] (k:=dF [0] 16 jz xH (k:=dH [0] 0 yv (k:=dM [0] (k:=dN [0] (k:=dF [0] 2 xF so2 (k:=dM [0] (k:=?_)))))))))))))
              refine dE (h:=fun Kd=>?_)
              refine Jf 1 rfl rfl rfl rfl (off:=2) rfl hn9 htA8 rfl rfl hl rfl rfl ?_
              refine Kd (sb [0]) (dM [0] (k:=?_))
              refine jo rfl rfl (jd [0] rfl) (fun _ _ h=>qt rfl rfl h) (jo rfl rfl (jd [0] rfl) (fun _ _ h=>qt rfl rfl h) (dN [0] (k:=dF [0] 0 xF so9 (k:=dE (h:=fun Kd=>jB [_,_,_,_] (_::_::_) 1 so9 (k:=Kd (sb [0]) (dA [0] (k:=K84 (CJ.t [(0,_),(3,_),(29,_)] (k:=?_))))))))))
              refine jC 17 (lts [0,1,2,3,4,5,6,7,8]++(9,false)::(lts [10,11,12,13,14]++(15,false)::lts [16])) [0] rfl (by kernel_rfl) (by kernel_rfl) (dM [0] (k:=dM [0] (k:=dN [0] (k:=dF [0] 16 jz xH (k:=dH [0] 0 yv (k:=dM [0] (k:=dN [0] (k:=dF [0] 3 xF so2 (k:=dM [0] (k:=dE (h:=fun Kd=>?_)))))))))))
              refine Jf 1 rfl rfl rfl rfl (off:=3) rfl hm9 htA8 rfl rfl hl rfl rfl ?_
              refine Kd (sb [0]) (dM [0] (k:=?_))
              refine jo rfl rfl (jd [0] rfl) (fun _ _ h=>qt rfl rfl h) (jo rfl rfl (jd [0] rfl) (fun _ _ h=>qt rfl rfl h) (dN [0] (k:=dF [0] 1 xF so9 (k:=dE (h:=fun Kd=>jB [_,_,_,_] (_::_::_) 1 so9 (k:=Kd (sb [0]) (dA [0] (k:=K81 (CJ.t [(0,_),(3,_)] (k:=sQ fun K85=>sQ fun K86=>jb (jM (k:=?_))))))))))))
              refine jN (k:=jF 13 jz Jt (k:=jH 0 KC (k:=jE xI (k:=jM (k:=K86 (jh ?_))))))
              refine jZ (σ:=Nat×Ent×Option Addr×Nat) (fun s=>[(0,ptr g.pb),(3,.nilIface),(441,.slice p7 x.comments.length c7),(442,.int .i64 (x.comments.length:Nat)),(443,.int .i64 (s.1:Nat))])
                (fun s=>s.2.1::⟨g.pb,ju,[.slice p1 x.types.length c1,.string eB,.slice p2 x.samples.length c2,.slice p3 x.mappings.length c3,.slice p4 x.locs.length c4,.slice p5 x.funcs.length c5,.slice s.2.2.1 s.1 s.2.2.2,.string x.drop,.string x.keep,.int .i64 x.time,.int .i64 x.dur,ptr p9,.int .i64 x.period,.slice p7 x.comments.length c7,.int .i64 0,.int .i64 0,.slice p6 T.length c6,.int .i64 sx],true,true,none⟩::⟨p9,tVT,cVT x.per,true,true,none⟩::vh v8 [g.pb,p9])
                (fun s _=>s.1≤x.comments.length∧Own qc 1 s.2.1 s.2.2.1 s.1 s.2.2.2 ((x.comments.take s.1).map .string)) (fun s=>x.comments.length - s.1)
                (0,qQ qc,none,0) sR (fun w' hH hf=>⟨hH.off,Nat.zero_le _,Own.nil⟩) ?_
              rintro ⟨m,ym,pm,cm⟩ wm ⟨hm,hOm⟩ hfm hHm KLm hKLm
              try dsimp only at hm hOm
              refine C.begin _ _ hfm hHm ?_
              try dsimp only
              refine sQ fun K87=>jb (jS (k:=K87 (sQ fun K88=>?_)))
              refine jq rfl (fun h444=>?_) (fun h444=>?_)
              · have hm':m<x.comments.length:=by omega
                obtain ⟨bi,rfl,hcx1⟩:=hcx8 ox
                have hml:m<cx.length:=by rw[hcx.1];exact hm'
                have hat:=hcx.2 m _ _ (gE hm') (gE hml)
                have hcc:∀w',Fm.ok ⟨v8,0,[ju,tVT]⟩ w'→w'.cell? ⟨bi,0+m*1,none⟩=some (.int .i64 cx[m]):=fun w' hf=>by
                  have h:=hcx1 ⟨v8,0,[ju,tVT]⟩ rfl rfl w' hf m (.int .i64 cx[m]) (by rw[List.getElem?_map,gE hml];rfl)
                  simpa using h
                refine jg (K88 (sQ fun K89=>jh (sQ fun K90=>jb (jJ xI so2 (k:=?_)))))
                refine jp rfl (fun a w ha hH hf=>kP ag2 rfl (hcc w hf) ha) (Xr zv2 rfl rfl fun b31=>jB [_] (_::_::_::_::_) 0 so2 (k:=K90 (sQ fun K91=>jb (jA (k:=K91 (sQ fun K92=>jb (jM (k:=jN (k:=jF 16 jz xH (k:=jH 2 yv (k:=?_)))))))))))
                refine jM (k:=?_)
                refine Jf 0 rfl rfl rfl rfl (off:=0) rfl hat htA8 rfl rfl hl rfl rfl ?_
                refine jM (k:=jX (k:=jX (k:=jA (k:=jA (k:=K92 (CJ.t [(0,_),(3,_),(32,_),(441,_),(442,_),(443,_)] (k:=jb (jM (k:=jM (k:=jN (k:=jF 6 jz xH (k:=jH 2 yv (k:=jM (k:=?_))))))))))))))
                refine kj vG so9 zv9 rfl rfl rfl rfl rfl fun b462=>?_
                refine qY 1 rfl hOm vG el9 rfl rfl rfl rfl rfl ox rfl fun y463 p463 c463 hO463=>?_
                refine jN (k:=jF 6 jz xH (k:=?_))
                refine QV (o:=6) 2 rfl rfl rfl rfl xH rfl rfl rfl rfl (Nat.le_of_ble_eq_true rfl) ?_
                refine K89 (jb (jI (k:=jM (k:=jw (ji ?_)))))
                exact fun w' hH hf=>hKLm (m+1,y463,p463,c463) _ w' ⟨hm',by rw[← tG hm',List.map_append];exact hO463⟩ hf (hH.drop 0) (by simp only;omega) sR
              · have hme:m=x.comments.length:=by omega
                rw[tL ox]at hOm
                replace htA:OS qc 1 v8 (.slice p6 T.length c6) (T.map .string):=htA8
                refine jt (K85 (CJ.t [(0,_),(3,_)] (k:=sQ fun K93=>jb (jM (k:=jN (k:=jF 13 jz Jt (k:=?_)))))))
                refine QV (o:=13) 1 rfl rfl rfl rfl Jt rfl rfl rfl rfl (Nat.le_of_ble_eq_true rfl) ?_
                refine K93 (sQ fun K94=>?_)
                refine Zu 17 (lts [0,1,2,3,4,5,6,7,8]++(9,false)::(lts [10,11,12,13,14]++(15,false)::lts [16])) [] rfl (fun w=>w.cell? ⟨g.pb,16,none⟩=some (.slice p6 T.length c6)) (by kernel_rfl) (by kernel_rfl) ?_
                refine qa rfl rfl (jd [] rfl) (fun w hH hf=>(hH.get (i:=1) rfl rfl).cell' rfl) (fun _ _ h=>vm rfl h) (qa rfl rfl (jd [] rfl) (fun w hH hf=>(hH.get (i:=1) rfl rfl).cell' rfl) (fun _ _ h=>vm rfl h) (qa rfl rfl (jd [] rfl) (fun w hH hf=>(hH.get (i:=1) rfl rfl).cell' rfl) (fun _ _ h=>yG rfl h) (qa rfl rfl (jd [] rfl) (fun w hH hf=>(hH.get (i:=1) rfl rfl).cell' rfl) (fun _ _ h=>xR (q:=16) (ft:=27) jz rfl xH rfl h) ?_)))
                refine qdJ rfl rfl (jd [] rfl) (fun w hH hf=>(hH.get (i:=1) rfl rfl).cell' rfl) (fun a w ha hT=>kP yv rfl hT ha) ?_
                refine qa rfl rfl (jd [] rfl) (fun w hH hf=>(hH.get (i:=1) rfl rfl).cell' rfl) (fun _ _ h=>vm rfl h) (qa rfl rfl (jd [] rfl) (fun w hH hf=>(hH.get (i:=1) rfl rfl).cell' rfl) (fun _ _ h=>yG rfl h) (qa rfl rfl (jd [] rfl) (fun w hH hf=>(hH.get (i:=1) rfl rfl).cell' rfl) (fun _ _ h=>xR (q:=17) (ft:=2) jz rfl so2 rfl h) (qa rfl rfl (jd [] rfl) (fun w hH hf=>(hH.get (i:=1) rfl rfl).cell' rfl) (fun _ _ h=>vm rfl h) (Vt rfl fun K2 hK2=>?_))))
                refine Jf 1 rfl rfl rfl rfl (off:=17) rfl hsx htA rfl rfl hl rfl rfl ?_
                refine jw (ji (hK2 _ _ (.inr ⟨(jd [] rfl),(fun w hH hf=>(hH.get (i:=1) rfl rfl).cell' rfl)⟩) ?_));clear hK2 K2
                refine qa rfl rfl (jd [] rfl) (fun w hH hf=>(hH.get (i:=1) rfl rfl).cell' rfl) (fun _ _ h=>vm rfl h) (qa rfl rfl (jd [] rfl) (fun w hH hf=>(hH.get (i:=1) rfl rfl).cell' rfl) (fun _ _ h=>qt rfl rfl h) (qa rfl rfl (jd [] rfl) (fun w hH hf=>(hH.get (i:=1) rfl rfl).cell' rfl) (fun _ _ h=>qt rfl rfl h) (qa rfl rfl (jd [] rfl) (fun w hH hf=>(hH.get (i:=1) rfl rfl).cell' rfl) (fun _ _ h=>yG rfl h) (qa rfl rfl (jd [] rfl) (fun w hH hf=>(hH.get (i:=1) rfl rfl).cell' rfl) (fun _ _ h=>xR (q:=1) (ft:=9) jz rfl so9 rfl h) (Vt rfl fun K2 hK2=>?_)))))
                refine QV (o:=1) 1 rfl rfl rfl rfl so9 rfl rfl rfl rfl (Nat.le_of_ble_eq_true rfl) ?_
                refine jw (ji (hK2 _ _ (.inr ⟨(jd [] rfl),(fun w hH hf=>(hH.get (i:=1) rfl rfl).cell' rfl)⟩) ?_));clear hK2 K2
                refine qa rfl rfl (jd [] rfl) (fun w hH hf=>(hH.get (i:=1) rfl rfl).cell' rfl) (fun _ _ h=>QT rfl h) (K94 (CJ.t [(0,_),(3,_)] (k:=sQ fun K95=>jb (jM (k:=jN (k:=jF 16 jz xH (k:=?_)))))))
                refine QV (o:=16) 1 rfl rfl rfl rfl xH rfl rfl rfl rfl (Nat.le_of_ble_eq_true rfl) ?_
                refine K95 (sQ fun K96=>jb (jM (k:=jA (k:=K96 (jj ?_)))))
                exact je results89 rfl fun w' hH hf=>⟨rfl,⟨g.pb,p9,g.types,g.maps,g.funs,g.locs,g.sams⟩,rfl,qiR hR hpb hty hsa hma hlo hfu hQA hpA hk8 hb8 hv8 hB9 hnt9 (Hp.keepX (l:=[g.pb,p9]) (((hH.drop 0).drop 0).drop 0) hf) (hH.get (i:=1) rfl rfl) (hOm.os hH (i:=0) rfl) (hH.get (i:=2) rfl rfl)⟩
            clear hK80
            refine sQ fun K97=>jb (jM (k:=jN (k:=jF 11 jz yO (k:=jH 0 Jp (k:=jA (k:=K97 (CJ.t [(0,_),(3,_),(28,_)] (k:=sQ fun K98=>jb (jM (k:=?_))))))))))
            refine jn rfl (fun _ _ h=>YC YO rfl h) (K98 ?_)
            refine qZ rfl (fun hn=>?_) (fun hn=>?_)
            · refine jb (jM (k:=?_))
              refine jn rfl (fun _ _ h=>vb (cs:=[(.string ⟨#[]⟩),(.string ⟨#[]⟩),(.int .i64 0),(.int .i64 0)]) qkB rfl rfl h) (qA (vs:=[_,_,_,_]) rfl rfl fun b399=>jN (k:=jF 11 jz yO (k:=?_)))
              refine QV (o:=11) 1 rfl rfl rfl rfl yO rfl rfl rfl rfl (Nat.le_of_ble_eq_true rfl) ?_
              refine jw (ji ?_)
              first
                |exact fun v' hH hf=>N.sub' (hJ396 v' b399 (Hp.keepX ((hH.drop 0).drop 0) hf) (hH.get (i:=1) rfl rfl) (qem hR hpb hz hn hQA (Hp.freshT hH rfl rfl rfl) (hH.get (i:=0) rfl rfl))) ⟨rfl,rfl,trivial⟩
                |(obtain ⟨e,hv,hB9,hnt⟩:=qel hR hn
                  subst e
                  exact fun v' hH hf=>N.sub' (hJ396 v' g.per (Hp.keepX (hH.drop 0) hf) (hH.get (i:=0) rfl rfl) ⟨qcm hv hQA hnt (Hp.keepX (l:=[g.pb]) (hH.drop 0) hf) hpA,hB9,hnt⟩) ⟨rfl,rfl,trivial⟩)
            · refine jg (ji ?_)
              first
                |exact fun v' hH hf=>N.sub' (hJ396 v' b399 (Hp.keepX ((hH.drop 0).drop 0) hf) (hH.get (i:=1) rfl rfl) (qem hR hpb hz hn hQA (Hp.freshT hH rfl rfl rfl) (hH.get (i:=0) rfl rfl))) ⟨rfl,rfl,trivial⟩
                |(obtain ⟨e,hv,hB9,hnt⟩:=qel hR hn
                  subst e
                  exact fun v' hH hf=>N.sub' (hJ396 v' g.per (Hp.keepX (hH.drop 0) hf) (hH.get (i:=0) rfl rfl) ⟨qcm hv hQA hnt (Hp.keepX (l:=[g.pb]) (hH.drop 0) hf) hpA,hB9,hnt⟩) ⟨rfl,rfl,trivial⟩)
structure Chk (x:jD):Prop where
 val:∀s∈x.samples,s.values.length=x.types.length∧x.types.length≠0
 m:(0:Int)∉x.mappings.map (·.id)∧(x.mappings.map (·.id)).Nodup
 f:(0:Int)∉x.funcs.map (·.id)∧(x.funcs.map (·.id)).Nodup
 l:(0:Int)∉x.locs.map (·.id)∧(x.locs.map (·.id)).Nodup
 lm:∀l∈x.locs,l.mapping<x.mappings.length∧l.lines.length≤1000∧∀n∈l.lines,n.fn<x.funcs.length
 n:x.samples.length≤1000∧x.mappings.length≤1000∧x.locs.length≤1000∧x.funcs.length≤1000
theorem qbp {id:Int} (hl:bs.length=ids.length) (hn:ids.Nodup) (hi:ids[k]? =some id) (hb:bs[k]? =some b):
  (xK (idM (ids.take k) (bs.take k)) id).getD (.pointer none)=.pointer none∧Jm (idM (ids.take k) (bs.take k)) id (ptr b)=idM (ids.take (k+1)) (bs.take (k+1)):=by
 have hk:=(List.getElem?_eq_some_iff.1 hi).1
 have hkb:=(List.getElem?_eq_some_iff.1 hb).1
 have hnm:id∉ids.take k:=fun hm=>by
  obtain ⟨j,hj,e⟩:=List.mem_take_iff_getElem.1 hm
  have h1:=(List.getElem?_eq_some_iff.1 hi).2
  have:=zN hn ox hk (e.trans h1.symm)
  omega
 refine ⟨?_,?_⟩
 ·rw[JT.2 (by rw[QW (by simp[hl])];exact hnm)];rfl
 ·rw[qcC (by simp[hl]) hnm, ← tG hk, ← tG hkb,(List.getElem?_eq_some_iff.1 hi).2,(List.getElem?_eq_some_iff.1 hb).2]
theorem qhH {α:Type} {xs:List α} {f:α→Int} {y:α} {z:Nat} (hl:bs.length=xs.length) (hn:(xs.map f).Nodup) (hz:xs[z]? =some y) (hb:bs[z]? =some b):(xK (idM (xs.map f) bs) (f y)).getD (.pointer none)=ptr b:=by
 have hm:(f y,ptr b)∈idM (xs.map f) bs:=by
  have:(idM (xs.map f) bs)[z]? =some (f y,ptr b):=by
   unfold idM
   rw[List.getElem?_zip_eq_some]
   exact ⟨by rw[List.getElem?_map,hz];rfl,by rw[List.getElem?_map,hb];rfl⟩
  exact mG this
 rw[KR (by rw[QW (by simp[hl])];exact hn) hm];rfl
theorem Zb (h:qe bs z=ptr b):bs[z.toNat]? =some b:=by
 unfold qe at h
 split at h
 ·cases he:bs[z.toNat]? with
  |none=>rw[he]at h;cases h
  |some c=>rw[he]at h;cases h;rfl
 ·cases h
theorem qcj {b:Bool} (h:(!(if 0≤z then (bs[z.toNat]?).map fun b=>(⟨b,0,none⟩:Addr) else none).isNone)=b) (hb:b=true):0≤z:=by
 by_cases h0:0≤z
 ·exact h0
 ·rw[if_neg h0]at h;subst hb;cases h
theorem Zl {α:Type} {xs:List α} {f:α→Int} {y:α} (h:(0:Int)∉xs.map f) (hy:y∈xs):f y≠0:=fun e=>h (e▸mq hy)
set_option maxHeartbeats 2000000 in
theorem qbD (B:Nat) (w:World) (x:jD) (g:G) (hG:OfQ B w x g) (hx:Chk x):Calls Tryz.prog 65 #[ptr g.pb] w (Ret fun v w'=>v=.nilIface∧Fr 0 [] w w'):=by
 obtain ⟨tyv,sav,mav,lov,fuv,cov,hpb,hty,hsa,hma,hlo,hfu, -⟩:=hG.prof
 obtain ⟨p1,l1,c1,rfl,hl1, -,hx1⟩:=hty.openF
 obtain ⟨p2,l2,c2,rfl,hl2, -,hx2⟩:=hsa.openF
 obtain ⟨p3,l3,c3,rfl,hl3, -,hx3⟩:=hma.openF
 obtain ⟨p4,l4,c4,rfl,hl4, -,hx4⟩:=hlo.openF
 obtain ⟨p5,l5,c5,rfl,hl5, -,hx5⟩:=hfu.openF
 obtain rfl:l1=x.types.length:=by have:=hG.types.1;simp at hl1;omega
 obtain rfl:l2=x.samples.length:=by have:=hG.sams.1;simp at hl2;omega
 obtain rfl:l3=x.mappings.length:=by have:=hG.maps.1;simp at hl3;omega
 obtain rfl:l4=x.locs.length:=by have:=hG.locs.1;simp at hl4;omega
 obtain rfl:l5=x.funcs.length:=by have:=hG.funs.1;simp at hl5;omega
 have hc0:=mc (f:=⟨w,0,[]⟩) hpb rfl
 obtain ⟨hn2,hn3,hn4,hn5⟩:=hx.n
 refine jr (args:=[_]) [(0,_)] 0 [] [] func65 rfl ntmps65 rfl rfl .nil ?_
 refine sQ fun K1=>jb (jA (k:=K1 (sQ fun K2=>jb (jM (k:=jN (k:=jF 0 jz JA (k:=jL Qx hc0 0 (k:=jE zV (k:=jA (k:=K2 ?_))))))))))
 refine qP fun K3 hK3=>?_
 have hJ33:∀v',Fm.ok ⟨w,0,[]⟩ v'→N K3 259 [(0,ptr g.pb),(3,.int .i64 (x.types.length:Nat))] v':=by
  intro v7 hf7
  refine hK3 ⟨w,0,[]⟩ _ [] ?_ v7 .nil hf7
  refine sQ fun K4=>sQ fun K5=>jb (jM (k:=jN (k:=jF 2 jz Jz (k:=jL VP hc0 2 (k:=jE JB (k:=jM (k:=K5 (CJ.t [(0,_),(3,_),(38,_),(39,_),(40,_)] (k:=jh ?_)))))))))
  refine jZ (σ:=Nat) (fun s=>[(0,ptr g.pb),(3,.int .i64 (x.types.length:Nat)),(38,.slice p2 x.samples.length c2),(39,.int .i64 (x.samples.length:Nat)),(40,.int .i64 (s:Nat))]) (fun _=>[]) (fun s _=>s≤x.samples.length) (fun s=>x.samples.length - s) 0 sR (fun w' hH hf=>⟨hH,Nat.zero_le _⟩) ?_
  rintro k2 u2 hk2 hf2 hH2 KL2 hKL2
  try dsimp only at hk2
  refine C.begin _ _ hf2 hH2 ?_
  try dsimp only
  refine sQ fun K6=>jb (jS (k:=K6 (sQ fun K7=>?_)))
  refine jq rfl (fun h41=>?_) (fun h41=>?_)
  ·have hk':k2<x.samples.length:=by omega
   obtain ⟨bq,rfl,hsq⟩:=hx2 ox
   have hkb:k2<g.sams.length:=by rw[hG.sams.1];exact hk'
   have hbe:g.sams[k2]? =some g.sams[k2]:=gE hkb
   have hxe:x.samples[k2]? =some x.samples[k2]:=gE hk'
   have hxm:x.samples[k2]∈x.samples:=List.getElem_mem hk'
   have hcell:=zu (k:=k2) (v:=ptr g.sams[k2]) (Fr.refl 0 [] w) rfl hsq (by simp[hkb])
   obtain ⟨ls,vs,lm,nm,iv,xv,hst, -,hvs, -⟩:=hG.sams.2 _ _ _ hbe hxe
   obtain ⟨pv,lv,cv,rfl,hlv, -⟩:=hvs.openF
   have hvl:=(hx.val _ hxm).1
   have hlv':lv=x.samples[k2].values.length:=by simpa using hlv.symm
   have hcb:=mc (f:=⟨w,0,[]⟩) hst rfl
   refine jg (K7 (sQ fun K8=>jh (sQ fun K9=>jb (jJ JB YT (k:=jL qcV hcell 0 (k:=jA (k:=K9 (sQ fun K10=>jb (jM (k:=jN (k:=jF 1 vl Jt (k:=?_))))))))))))
   refine jL KC hcb 1 (k:=jE xI (k:=jM (k:=?_)))
   refine jn rfl (fun _ _ h=>yQ rfl rfl h) ?_
   refine jV (u:=.bool false) (congrArg Value.bool (decide_eq_false ox)) ?_
   refine K10 (CJ.t [(0,_),(3,_),(5,_),(38,_),(39,_),(40,_),(50,_)] (k:=?_))
   refine jO rfl (jg (K8 (jb (jI (k:=jM (k:=jw (ji ?_)))))))
   exact fun w' hH hf=>hKL2 (k2+1) _ w' hk' hf hH ox sR
  ·clear hKL2
   refine jt (K4 (sQ fun K11=>jb (jM (k:=jN (k:=jF 3 jz zD (k:=jL KX hc0 3 (k:=jE zn (k:=?_))))))))
   refine zO (fun _ h=>by cases h;exact ⟨⟨_,_,qaf⟩,_,_,rfl⟩) rfl fun b74=>?_
   refine jA (k:=K11 (sQ fun K12=>sQ fun K13=>jb (jM (k:=jN (k:=jF 3 jz zD (k:=jL KX hc0 3 (k:=jE zn (k:=jM (k:=K13 (CJ.t [(0,_),(6,_),(78,_),(79,_),(80,_)] (k:=jh ?_)))))))))))
   refine jZ (σ:=Nat×List MapEntry×Nat) (fun s=>[(0,ptr g.pb),(6,.map (some b74)),(78,.slice p3 x.mappings.length c3),(79,.int .i64 (x.mappings.length:Nat)),(80,.int .i64 (s.1:Nat))]) (fun s=>mpE b74 s.2.1 s.2.2::[]) (fun s _=>s.1≤x.mappings.length∧vA (Value.int .u64) (idM ((x.mappings.map (·.id)).take s.1) (g.maps.take s.1)) s.2.1 s.2.2) (fun s=>x.mappings.length - s.1) (0,[],_) sR (fun w' hH hf=>⟨hH,Nat.zero_le _,vA.nil'⟩) ?_
   rintro ⟨k3,es3,ck3⟩ u3 ⟨hk3,hM3⟩ hf3 hH3 KL3 hKL3
   try dsimp only at hk3 hM3
   refine C.begin _ _ hf3 hH3 ?_
   try dsimp only
   refine sQ fun K14=>jb (jS (k:=K14 (sQ fun K15=>?_)))
   refine jq rfl (fun h81=>?_) (fun h81=>?_)
   ·have hk':k3<x.mappings.length:=by omega
    obtain ⟨bq,rfl,hsq⟩:=hx3 ox
    have hkb:k3<g.maps.length:=by rw[hG.maps.1];exact hk'
    have hbe:g.maps[k3]? =some g.maps[k3]:=gE hkb
    have hxe:x.mappings[k3]? =some x.mappings[k3]:=gE hk'
    have hxm:x.mappings[k3]∈x.mappings:=List.getElem_mem hk'
    have hcell:=zu (k:=k3) (v:=ptr g.maps[k3]) (Fr.refl 0 [] w) rfl hsq (by simp[hkb])
    have hcb:=mc (f:=⟨w,0,[]⟩) (hG.maps.2 _ _ _ hbe hxe) rfl
    obtain ⟨hno,hup⟩:=qbp (ids:=(x.mappings.map (·.id))) (id:=x.mappings[k3].id) (by simp[hG.maps.1]) hx.m.2 (by simp[hk']) hbe
    have hnz:=Zl (f:=(·.id)) hx.m.1 hxm
    refine jg (K15 (sQ fun K16=>jh (sQ fun K17=>jb (jJ zn zT (k:=jL Qw hcell 0 (k:=jA (k:=K17 (sQ fun K18=>sQ fun K19=>jb (jM (k:=jN (k:=?_)))))))))))
    refine jF 0 vg kU (k:=jL vy hcb 0 (k:=jQ (k:=?_)))
    refine jV (u:=.bool false) (congrArg Value.bool (decide_eq_false hnz)) ?_
    refine K19 (jO rfl (jg (K18 (sQ fun K20=>sQ fun K21=>jb (jM (k:=jM (k:=jN (k:=jF 0 vg kU (k:=jL vy hcb 0 (k:=?_))))))))))
    refine jp rfl (fun a w ha hH hf=>Ko qaf (xN xu) qbH rfl rfl ha ⟨_,es3,ck3,hH.obj (i:=0) rfl rfl,hM3,hno⟩) (jn rfl (fun _ _ h=>zJ qbK rfl h) (K21 (CJ.t [(0,_),(6,_),(8,_),(78,_),(79,_),(80,_),(96,_)] (k:=?_))))
    refine jO rfl (jg (K20 (jb (jM (k:=jM (k:=jN (k:=jF 0 vg kU (k:=jL vy hcb 0 (k:=jM (k:=?_))))))))))
    refine xf 0 rfl qaf (xN xu) hM3 rfl rfl rfl (fun w hH hf=>⟨fun _ _=>trivial,trivial⟩) fun es' ck' hM'=>?_
    rw[hup]at hM'
    refine K16 (jb (jI (k:=jM (k:=jw (ji ?_)))))
    exact fun w' hH hf=>hKL3 (k3+1,es',ck') _ w' ⟨hk',hM'⟩ hf hH ox sR
   ·have hke3:k3=x.mappings.length:=by omega
    subst hke3
    rw[tL zp,tL (by rw[hG.maps.1];exact Nat.le_refl _)]at hM3
    clear hKL3 hk3 h81
    refine jt (K12 (sQ fun K22=>jb (jM (k:=jN (k:=jF 5 jz zw (k:=jL Kw hc0 5 (k:=jE ze (k:=?_))))))))
    refine zO (fun _ h=>by cases h;exact ⟨⟨_,_,qae⟩,_,_,rfl⟩) rfl fun b116=>?_
    refine jA (k:=K22 (CJ.t [(0,_),(6,_),(9,_)] (k:=sQ fun K23=>sQ fun K24=>jb (jM (k:=jN (k:=jF 5 jz zw (k:=jL Kw hc0 5 (k:=jE ze (k:=jM (k:=K24 (jh ?_)))))))))))
    refine jZ (σ:=Nat×List MapEntry×Nat) (fun s=>[(0,ptr g.pb),(6,.map (some b74)),(9,.map (some b116)),(120,.slice p5 x.funcs.length c5),(121,.int .i64 (x.funcs.length:Nat)),(122,.int .i64 (s.1:Nat))]) (fun s=>mpE b116 s.2.1 s.2.2::[mpE b74 es3 ck3]) (fun s _=>s.1≤x.funcs.length∧vA (Value.int .u64) (idM ((x.funcs.map (·.id)).take s.1) (g.funs.take s.1)) s.2.1 s.2.2) (fun s=>x.funcs.length - s.1) (0,[],_) sR (fun w' hH hf=>⟨hH,Nat.zero_le _,vA.nil'⟩) ?_
    rintro ⟨k5,es5,ck5⟩ u5 ⟨hk5,hM5⟩ hf5 hH5 KL5 hKL5
    try dsimp only at hk5 hM5
    refine C.begin _ _ hf5 hH5 ?_
    try dsimp only
    refine sQ fun K25=>jb (jS (k:=K25 (sQ fun K26=>?_)))
    refine jq rfl (fun h123=>?_) (fun h123=>?_)
    ·have hk':k5<x.funcs.length:=by omega
     obtain ⟨bq,rfl,hsq⟩:=hx5 ox
     have hkb:k5<g.funs.length:=by rw[hG.funs.1];exact hk'
     have hbe:g.funs[k5]? =some g.funs[k5]:=gE hkb
     have hxe:x.funcs[k5]? =some x.funcs[k5]:=gE hk'
     have hxm:x.funcs[k5]∈x.funcs:=List.getElem_mem hk'
     have hcell:=zu (k:=k5) (v:=ptr g.funs[k5]) (Fr.refl 0 [] w) rfl hsq (by simp[hkb])
     have hcb:=mc (f:=⟨w,0,[]⟩) (hG.funs.2 _ _ _ hbe hxe) rfl
     obtain ⟨hno,hup⟩:=qbp (ids:=(x.funcs.map (·.id))) (id:=x.funcs[k5].id) (by simp[hG.funs.1]) hx.f.2 (by simp[hk']) hbe
     have hnz:=Zl (f:=(·.id)) hx.f.1 hxm
     refine jg (K26 (sQ fun K27=>jh (sQ fun K28=>jb (jJ ze zd (k:=jL Kv hcell 0 (k:=jA (k:=K28 (sQ fun K29=>sQ fun K30=>jb (jM (k:=jN (k:=?_)))))))))))
     refine jF 0 xc kU (k:=jL vy hcb 0 (k:=jQ (k:=?_)))
     refine jV (u:=.bool false) (congrArg Value.bool (decide_eq_false hnz)) ?_
     refine K30 (jO rfl (jg (K29 (sQ fun K31=>sQ fun K32=>jb (jM (k:=jM (k:=jN (k:=jF 0 xc kU (k:=jL vy hcb 0 (k:=?_))))))))))
     refine jp rfl (fun a w ha hH hf=>Ko qae (xN xu) qbG rfl rfl ha ⟨_,es5,ck5,hH.obj (i:=0) rfl rfl,hM5,hno⟩) (jn rfl (fun _ _ h=>zJ qaa rfl h) (K32 (CJ.t [(0,_),(6,_),(9,_),(11,_),(120,_),(121,_),(122,_),(138,_)] (k:=?_))))
     refine jO rfl (jg (K31 (jb (jM (k:=jM (k:=jN (k:=jF 0 xc kU (k:=jL vy hcb 0 (k:=jM (k:=?_))))))))))
     refine xf 0 rfl qae (xN xu) hM5 rfl rfl rfl (fun w hH hf=>⟨fun _ _=>trivial,trivial⟩) fun es' ck' hM'=>?_
     rw[hup]at hM'
     refine K27 (jb (jI (k:=jM (k:=jw (ji ?_)))))
     exact fun w' hH hf=>hKL5 (k5+1,es',ck') _ w' ⟨hk',hM'⟩ hf hH ox sR
    ·have hke5:k5=x.funcs.length:=by omega
     subst hke5
     rw[tL zp,tL (by rw[hG.funs.1];exact Nat.le_refl _)]at hM5
     clear hKL5 hk5 h123
     refine jt (K23 (sQ fun K33=>jb (jM (k:=jN (k:=jF 4 jz xq (k:=jL zY hc0 4 (k:=jE xw (k:=?_))))))))
     refine zO (fun _ h=>by cases h;exact ⟨⟨_,_,qbY⟩,_,_,rfl⟩) rfl fun b158=>?_
     refine jA (k:=K33 (CJ.t [(0,_),(6,_),(9,_),(12,_)] (k:=sQ fun K34=>sQ fun K35=>jb (jM (k:=jN (k:=jF 4 jz xq (k:=jL zY hc0 4 (k:=jE xw (k:=jM (k:=K35 (jh ?_)))))))))))
     refine jZ (σ:=Nat×List MapEntry×Nat) (fun s=>[(6,.map (some b74)),(9,.map (some b116)),(12,.map (some b158)),(162,.slice p4 x.locs.length c4),(163,.int .i64 (x.locs.length:Nat)),(164,.int .i64 (s.1:Nat))]) (fun s=>mpE b158 s.2.1 s.2.2::[mpE b116 es5 ck5,mpE b74 es3 ck3]) (fun s _=>s.1≤x.locs.length∧vA (Value.int .u64) (idM ((x.locs.map (·.id)).take s.1) (g.locs.take s.1)) s.2.1 s.2.2) (fun s=>x.locs.length - s.1) (0,[],_) sR (fun w' hH hf=>⟨hH,Nat.zero_le _,vA.nil'⟩) ?_
     rintro ⟨k4,es4,ck4⟩ u4 ⟨hk4,hM4⟩ hf4 hH4 KL4 hKL4
     try dsimp only at hk4 hM4
     refine C.begin _ _ hf4 hH4 ?_
     try dsimp only
     refine sQ fun K36=>jb (jS (k:=K36 (sQ fun K37=>?_)))
     refine jq rfl (fun h165=>?_) (fun h165=>?_)
     ·have hk':k4<x.locs.length:=by omega
      obtain ⟨bq,rfl,hsq⟩:=hx4 ox
      have hkb:k4<g.locs.length:=by rw[hG.locs.1];exact hk'
      have hbe:g.locs[k4]? =some g.locs[k4]:=gE hkb
      have hxe:x.locs[k4]? =some x.locs[k4]:=gE hk'
      have hxm:x.locs[k4]∈x.locs:=List.getElem_mem hk'
      have hcell:=zu (k:=k4) (v:=ptr g.locs[k4]) (Fr.refl 0 [] w) rfl hsq (by simp[hkb])
      obtain ⟨lsv,hst,hlsv⟩:=(hG.locs.2 _ _ _ hbe hxe).ex
      obtain ⟨pL,lL,cL,rfl,hlL, -,hlc⟩:=hlsv.openF
      obtain rfl:lL=x.locs[k4].lines.length:=by rw[qw (c:=qk g.funs) (sz:=3) (fun _=>rfl)]at hlL;omega
      obtain ⟨hmu,hl60,hln⟩:=hx.lm _ hxm
      have hcb:=mc (f:=⟨w,0,[]⟩) hst rfl
      obtain ⟨hno,hup⟩:=qbp (ids:=(x.locs.map (·.id))) (id:=x.locs[k4].id) (by simp[hG.locs.1]) hx.l.2 (by simp[hk']) hbe
      have hnz:=Zl (f:=(·.id)) hx.l.1 hxm
      refine jg (K37 (sQ fun K38=>jh (sQ fun K39=>jb (jJ xw JW (k:=jL VO hcell 0 (k:=jA (k:=K39 (sQ fun K40=>sQ fun K41=>jb (jM (k:=jN (k:=?_)))))))))))
      refine jF 0 vc kU (k:=jL vy hcb 0 (k:=jQ (k:=?_)))
      refine jV (u:=.bool false) (congrArg Value.bool (decide_eq_false hnz)) ?_
      refine K41 (jO rfl (jg (K40 (sQ fun K42=>sQ fun K43=>jb (jM (k:=jM (k:=jN (k:=jF 0 vc kU (k:=jL vy hcb 0 (k:=?_))))))))))
      refine jp rfl (fun a w ha hH hf=>Ko qbY (xN xu) YM rfl rfl ha ⟨_,es4,ck4,hH.obj (i:=0) rfl rfl,hM4,hno⟩) (jn rfl (fun _ _ h=>zJ qkf rfl h) (K43 (CJ.t [(6,_),(9,_),(12,_),(14,_),(162,_),(163,_),(164,_),(180,_)] (k:=?_))))
      refine jO rfl (jg (K42 (sQ fun K44=>jb (jM (k:=jM (k:=jN (k:=jF 0 vc kU (k:=jL vy hcb 0 (k:=jM (k:=?_))))))))))
      refine xf 0 rfl qbY (xN xu) hM4 rfl rfl rfl (fun w hH hf=>⟨fun _ _=>trivial,trivial⟩) fun es' ck' hM'=>?_
      rw[hup]at hM'
      refine K44 (qP fun K45 hK45=>?_)
      have hJ199:∀v',Hp ⟨w,0,[]⟩ v' [mpE b158 es' ck',mpE b116 es5 ck5,mpE b74 es3 ck3]→Fm.ok ⟨w,0,[]⟩ v'→N K45 259 [(6,.map (some b74)),(9,.map (some b116)),(12,.map (some b158)),(14,ptr g.locs[k4]),(162,.slice (some ⟨bq,0,none⟩) x.locs.length c4),(163,.int .i64 (x.locs.length:Nat)),(164,.int .i64 (k4:Nat))] v':=by
       intro v7 hH7 hf7
       refine hK45 ⟨w,0,[]⟩ _ [mpE b158 es' ck',mpE b116 es5 ck5,mpE b74 es3 ck3] ?_ v7 hH7 hf7
       refine sQ fun K46=>jb (jM (k:=jN (k:=jF 3 vc xW (k:=jL zX hcb 3 (k:=jE xX (k:=jM (k:=K46 (CJ.t [(6,_),(9,_),(12,_),(162,_),(163,_),(164,_),(225,_),(226,_),(227,_)] (k:=jh ?_)))))))))
       refine jZ (σ:=Nat) (fun s=>[(6,.map (some b74)),(9,.map (some b116)),(12,.map (some b158)),(162,.slice (some ⟨bq,0,none⟩) x.locs.length c4),(163,.int .i64 (x.locs.length:Nat)),(164,.int .i64 (k4:Nat)),(225,.slice pL x.locs[k4].lines.length cL),(226,.int .i64 (x.locs[k4].lines.length:Nat)),(227,.int .i64 (s:Nat))]) (fun _=>[mpE b158 es' ck',mpE b116 es5 ck5,mpE b74 es3 ck3]) (fun s _=>s≤x.locs[k4].lines.length) (fun s=>x.locs[k4].lines.length - s) 0 sR (fun w' hH hf=>⟨hH,Nat.zero_le _⟩) ?_
       rintro j uj hj hfj hHj KLj hKLj
       try dsimp only at hj
       refine C.begin _ _ hfj hHj ?_
       try dsimp only
       refine sQ fun K47=>jb (jS (k:=K47 (sQ fun K48=>?_)))
       refine jq rfl (fun h228=>?_) (fun h228=>?_)
       ·have hj':j<x.locs[k4].lines.length:=by omega
        obtain ⟨bl,rfl,hlc2⟩:=hlc ox
        have hfu2:=hln _ (List.getElem_mem hj')
        have hcr:∀w',Fm.ok ⟨w,0,[]⟩ w'→∀(i:Nat) (u:Value),(qk g.funs x.locs[k4].lines[j])[i]? =some u→w'.cell? ⟨bl,0+j*3+i,none⟩=some u:=fun w' hf i u hu=>by rw[Nat.zero_add];exact hlc2 ⟨w,0,[]⟩ rfl rfl w' hf _ _ (xg (c:=qk g.funs) (sz:=3) (fun _=>rfl) (gE hj') i u hu)
        refine jg (K48 (sQ fun K49=>jh (sQ fun K50=>jb (jJ xX xE (k:=?_)))))
        refine jp rfl (fun a w ha hH hf=>kD (vs:=qk g.funs x.locs[k4].lines[j]) Yo xE rfl rfl (hcr w hf) ha) (jW (zs:=[(.pointer none),(.int .i64 0),(.int .u64 0)]) QH rfl fun b17=>?_)
        refine yt 0 rfl rfl rfl rfl xE rfl rfl rfl rfl rfl ?_
        refine K50 (sQ fun K51=>jb (jF 0 Jj zd (k:=jH 0 Kv (k:=jA (k:=K51 (sQ fun K52=>jb (jM (k:=?_))))))))
        refine jn rfl (fun _ _ h=>zJ qaa rfl h) (K52 (CJ.t [(6,_),(9,_),(12,_),(18,_),(162,_),(163,_),(164,_),(225,_),(226,_),(227,_),(234,_)] (k:=?_)))
        refine qZ rfl (fun hq2=>?_) (fun hq2=>?_)
        ·have hfp:0≤x.locs[k4].lines[j].fn:=qcj rfl hq2
         obtain ⟨fb,hfb⟩:=XJ (bs:=g.funs) hfp (by rw[hG.funs.1];exact hfu2)
         rw[hfb]
         have hy1:x.locs[k4].lines[j].fn.toNat<x.funcs.length:=by omega
         have hy2:=Zb hfb
         have hbf:=hG.funs.2 _ _ _ hy2 (gE hy1)
         have hcf:=mc (f:=⟨w,0,[]⟩) hbf rfl
         have hgf:=qhH (f:=(·.id)) hG.funs.1 hx.f.2 (gE hy1) hy2
         have hfz:=Zl (f:=(·.id)) hx.f.1 (List.getElem_mem hy1)
         refine sQ fun K53=>jb (jM (k:=jN (k:=jF 0 xc kU (k:=jL vy hcf 0 (k:=jQ (k:=?_))))))
         refine jV (u:=.bool false) (congrArg Value.bool (decide_eq_false hfz)) ?_
         refine jM (k:=?_)
         refine jy rfl rfl (jM (k:=?_))
         refine jy rfl rfl (jM (k:=?_))
         refine jy rfl rfl (jN (k:=?_))
         refine jy rfl rfl (jF 0 xc kU (k:=?_))
         refine jy rfl rfl (jL vy hcf 0 (k:=?_))
         refine jy rfl rfl (jp rfl (fun a w ha hH hf=>Ko qae (xN xu) qbG rfl rfl ha ⟨_,es5,ck5,hH.obj (i:=2) rfl rfl,hM5,hgf⟩) (jy rfl rfl (jM (k:=?_))))
         refine jy rfl rfl (jp rfl (fun a w' ha hH hf=>qgM qaa qkm qkk rfl rfl (hf.blk hbf (.inr zp)) (hf.blk hbf (.inr zp)) ha) ?_)
         refine jV (u:=.bool false) (congrArg Value.bool (decide_eq_false zp)) ?_
         refine jK (k:=K53 (CJ.t [(6,_),(9,_),(12,_),(18,_),(162,_),(163,_),(164,_),(225,_),(226,_),(227,_),(249,_)] (k:=?_)))
         refine jO rfl (jg (K49 (jb (jI (k:=jM (k:=jw (ji ?_)))))))
         exact fun w' hH hf=>hKLj (j+1) _ w' hj' hf (hH.drop 0) ox sR
        ·refine jg (K49 (jb (jI (k:=jM (k:=jw (ji ?_))))))
         exact fun w' hH hf=>hKLj (j+1) _ w' hj' hf (hH.drop 0) ox sR
       ·clear hKLj
        refine jt (K38 (jb (jI (k:=jM (k:=jw (ji ?_))))))
        exact fun w' hH hf=>hKL4 (k4+1,es',ck') _ w' ⟨hk',hM'⟩ hf hH ox sR
      clear hK45
      refine sQ fun K54=>jb (jM (k:=jN (k:=jF 1 vc zT (k:=jL Qw hcb 1 (k:=jA (k:=K54 (CJ.t [(6,_),(9,_),(12,_),(14,_),(15,_),(162,_),(163,_),(164,_)] (k:=sQ fun K55=>jb (jM (k:=?_))))))))))
      refine jn rfl (fun _ _ h=>zJ qbK rfl h) (K55 ?_)
      refine qZ rfl (fun hq=>?_) (fun hq=>?_)
      ·have hmp:0≤x.locs[k4].mapping:=qcj rfl hq
       obtain ⟨mb,hmb⟩:=XJ (bs:=g.maps) hmp (by rw[hG.maps.1];exact hmu)
       rw[hmb]
       have hz1:x.locs[k4].mapping.toNat<x.mappings.length:=by omega
       have hz2:=Zb hmb
       have hbm:=hG.maps.2 _ _ _ hz2 (gE hz1)
       have hcm:=mc (f:=⟨w,0,[]⟩) hbm rfl
       have hget:=qhH (f:=(·.id)) hG.maps.1 hx.m.2 (gE hz1) hz2
       have hmz:=Zl (f:=(·.id)) hx.m.1 (List.getElem_mem hz1)
       refine sQ fun K56=>jb (jM (k:=jN (k:=jF 0 vg kU (k:=jL vy hcm 0 (k:=jQ (k:=?_))))))
       refine jV (u:=.bool false) (congrArg Value.bool (decide_eq_false hmz)) ?_
       refine jM (k:=?_)
       refine jy rfl rfl (jM (k:=?_))
       refine jy rfl rfl (jM (k:=?_))
       refine jy rfl rfl (jN (k:=?_))
       refine jy rfl rfl (jF 0 vg kU (k:=?_))
       refine jy rfl rfl (jL vy hcm 0 (k:=?_))
       refine jy rfl rfl ?_
       refine jp rfl (fun a w ha hH hf=>Ko qaf (xN xu) qbH rfl rfl ha ⟨_,es3,ck3,hH.obj (i:=2) rfl rfl,by first|exact hM3|(simp only[List.take_length];exact hM3),hget⟩) ?_
       refine jy rfl rfl (jM (k:=?_))
       refine jy rfl rfl (jp rfl (fun a w' ha hH hf=>qgM qbK qkn qkl rfl rfl (hf.blk hbm (.inr zp)) (hf.blk hbm (.inr zp)) ha) ?_)
       refine jV (u:=.bool false) (congrArg Value.bool (decide_eq_false zp)) ?_
       refine jK (k:=K56 (CJ.t [(6,_),(9,_),(12,_),(14,_),(15,_),(162,_),(163,_),(164,_),(214,_)] (k:=?_)))
       refine jO rfl (jg (ji ?_))
       exact fun v' hH hf=>N.sub' (hJ199 v' hH hf) sR
      ·refine jg (ji ?_)
       exact fun v' hH hf=>N.sub' (hJ199 v' hH hf) sR
     ·refine jt (K34 (sQ fun K57=>jb (jA (k:=K57 (jj ?_)))))
      exact je results65 rfl fun w' hH hf=>⟨rfl,hf⟩
 clear hK3
 refine sQ fun K58=>jb (jM (k:=jQ (k:=jM (k:=?_))))
 refine xk (t:=26) rfl (fun hg26=>?_) (fun hg26=>?_)
 ·refine jy rfl rfl (jM (k:=?_))
  refine jy rfl rfl (jN (k:=?_))
  refine jy rfl rfl (jF 2 jz Jz (k:=?_))
  refine jy rfl rfl (jL VP hc0 2 (k:=?_))
  refine jy rfl rfl (jE JB (k:=?_))
  refine jy rfl rfl (jn rfl (fun _ _ h=>yQ rfl rfl h) ?_)
  refine jV (u:=.bool false) (congrArg Value.bool (decide_eq_false (by
   have h0:x.types.length=0:=by simpa using hg26
   have h1:x.samples.length=0:=by
    cases hs:x.samples with
    |nil=>rfl
    |cons a r=>exact absurd h0 (hx.val a (by rw[hs];exact List.Mem.head _)).2
   omega))) ?_
  refine jT (k:=K58 (CJ.t [(0,_),(3,_),(33,_)] (k:=?_)))
  refine jO rfl (jg (ji ?_))
  exact fun v' hH hf=>N.sub' (hJ33 v' hf) ⟨rfl,rfl,trivial⟩
 ·refine kN rfl rfl rfl rfl (kN rfl rfl rfl rfl (kN rfl rfl rfl rfl (kN rfl rfl rfl rfl (kN rfl rfl rfl rfl (kN rfl rfl rfl rfl (jK (k:=K58 ?_)))))))
  refine jO rfl (jg (ji ?_))
  exact fun v' hH hf=>N.sub' (hJ33 v' hf) ⟨rfl,rfl,trivial⟩
structure Pln (x:jD):Prop where
 samples:∀s∈x.samples,s.values.length≤1000∧s.stack.length≤1000∧zQ s∧∀k∈s.stack,0≤k∧k<x.locs.length
 nsam:x.samples.length≤1000
 ntyp:x.types.length≤1000
 ncom:x.comments.length≤1000
 nm:x.mappings.length≤1000
 nf:x.funcs.length≤1000
 nl:x.locs.length≤1000
 locs:∀l∈x.locs,(-1≤l.mapping∧l.mapping<x.mappings.length)∧l.lines.length≤1000∧∀n∈l.lines, -1≤n.fn∧n.fn<x.funcs.length
theorem CJ.turn {P:Program} {c:Code} {Q:Exit→Act→World→Prop} {e:Env} {ws:World} (hH:Hp ⟨ws,0,W⟩ ws H) (h:CJ P c Q n ⟨ws,0,W⟩ e H):CJ P c Q n ⟨ws,0,[]⟩ e []:=fun w _ hf=>h w (hH.fr hf) (hf.quiet 0 W)
theorem Kr {w1:World} {W1:List Nat} (hF:Fr B W w w1) (hW:W.all (fun t=> !Nat.beq t T)=true) (hW1:W1.all (fun t=> !Nat.beq t T)=true) (hc:∀f:Fm,f.ws=w→f.W.all (fun t=> !Nat.beq t T)=true→∀w',f.ok w'→∀(j:Nat) (u:Value),xs[j]? =some u→w'.cell? ⟨b,j,none⟩=some u) (hv:xs[k]? =some v):
  ∀w',Fm.ok ⟨w1,0,W1⟩ w'→∀(j:Nat) (u:Value),[v][j]? =some u→w'.cell? ⟨b,0+k*1+j,none⟩=some u:=fun w' kp j u hu=>by
 cases j with
 |zero=>
  simp at hu;subst hu
  have h1:Fm.ok ⟨w,0,W++W1⟩ w':=Fr.trans (hF.mono (.inr ⟨Nat.zero_le _,fun _ h=>List.mem_append_left _ h⟩)) (Fr.mono kp (B':=0) (W':=W++W1) (.inr ⟨Nat.le_refl _,fun _ h=>List.mem_append_right _ h⟩)) (.inr ⟨Nat.le_refl _,fun _ h=>h⟩)
  simpa using hc ⟨w,0,W++W1⟩ rfl (by simp only[List.all_append,hW,hW1,Bool.and_self]) w' h1 k v hv
 |succ j=>simp at hu
theorem PS.init {x:jD} {T:List ByteArray} (hG:OfP B w0 x g) (k:Fr 0 [] w0 w) (tab:Tab w mb (yz x) T) (zero:T[0]? =some eB):PS B w0 mb x g 0 0 0 0 0 T w:=by
 have kr:=fun (b:Nat) (T:Nat) (cs:List Value) (hb:Blk w0 b T cs)=>k.blk hb (.inr zp)
 refine ⟨tab,zero,k.quiet B wP,fun i b y hb hy=>⟨fun h=>by omega,fun _=>kr _ _ _ (hG.types.2 i b y hb hy)⟩,fun i b y hb hy=>⟨fun h=>by omega,fun _=>?_⟩,fun i b y hb hy=>⟨fun h=>by omega,fun _=>kr _ _ _ (hG.maps.2 i b y hb hy)⟩,fun i b y hb hy=>⟨fun h=>by omega,fun _=>?_⟩,fun i b y hb hy=>⟨fun h=>by omega,fun _=>kr _ _ _ (hG.funs.2 i b y hb hy)⟩,kr _ _ _ hG.per,fun b cs hb=>⟨cs,kr _ _ _ hb,LC.refl⟩⟩
 ·obtain ⟨ls,vs,lm,nm,h1,h2⟩:=(hG.sams.2 i b y hb hy).ex
  exact ⟨ls,vs,lm,nm,kr _ _ _ h1,h2⟩
 ·obtain ⟨ls,h1,h2⟩:=(hG.locs.2 i b y hb hy).ex
  obtain ⟨cs,h3,h4⟩:=hG.rows b (mG hb)
  exact ⟨ls,kr _ _ _ h1,h2,fun rb n c e=>h4 rb n c (by rw[Blk.same' h3 h1,e];rfl)⟩
theorem xV {α β:Type} {f:α→List β}:∀{l:List α},(∀a∈l,(f a).length≤c)→(l.flatMap f).length≤c*l.length
 |[],_=>by simp
 |a::r,h=>by
    rw[List.flatMap_cons,lA,List.length_cons]
    have h1:=h a zp
    have h2:=xV (l:=r) fun b hb=>h b (by simp[hb])
    rw[Nat.mul_succ];omega
theorem qko {mo:Option Nat} (h:Jq w mo es ck) (h':Jq u mo es ck) (hb:Blk u b T cs) (hmb:w.heap.size≤mb):∀c,mo=some c→c∉[b,mb]:=fun c hc hm=>by
 subst hc
 simp at hm
 rcases h with ⟨h, -⟩|⟨c',h1,h2⟩
 ·cases h
 cases h1
 have hlt:=(Array.getElem?_eq_some_iff.1 h2).1
 rcases hm with hm|hm
 ·subst hm
  rcases h' with ⟨h, -⟩|⟨c',h1,h3⟩
  ·cases h
  cases h1
  have h4:u.heap[c]? =some (.cells cs.toArray T (0,0)):=hb
  rw[h3]at h4;cases h4
 ·omega
theorem qfu (h:zQ s) (m j:Nat) (hm:m<s.texts.length):((s.texts.take m).flatMap xG++(xG s.texts[m]).take j).length≤4000:=by
 have h1:((s.texts.take m).flatMap xG).length≤60*(s.texts.take m).length:=xV fun t ht=>by
  simp only[xG,List.length_map]
  exact (h.tl t (List.mem_of_mem_take ht)).2.1
 have h2:(xG s.texts[m]).length≤60:=by
  simp only[xG,List.length_map]
  exact (h.tl _ (List.getElem_mem hm)).2.1
 have h3:=h.tlen
 simp only[lA,List.length_take]at h1⊢
 omega
theorem qft (h:zQ s) (m j:Nat) (hm:m<s.nums.length):(s.texts.flatMap xG++(s.nums.take m).flatMap yr++(yr s.nums[m]).take j).length≤8000:=by
 have h0:(s.texts.flatMap xG).length≤60*s.texts.length:=xV fun t ht=>by
  simp only[xG,List.length_map]
  exact (h.tl t ht).2.1
 have h1:((s.nums.take m).flatMap yr).length≤60*(s.nums.take m).length:=xV fun t ht=>by
  simp only[yr,List.length_map]
  exact (h.nl t (List.mem_of_mem_take ht)).2
 have h2:(yr s.nums[m]).length≤60:=by
  simp only[yr,List.length_map]
  exact (h.nl _ (List.getElem_mem hm)).2
 have h3:=h.nlen
 have h4:=h.tlen
 simp only[lA,List.length_take]at h1⊢
 omega
theorem qjj {x:jD} {l:vP} (h:0≤z) (hl:x.locs[z.toNat]? =some l):lid x z=l.id:=by
 simp[lid,VB,h,List.getD_eq_getElem?_getD,hl]
set_option maxHeartbeats 4000000 in
theorem qck (B:Nat) (w:World) (x:jD) (g:G) (hG:OfP B w x g) (hx:vW x) (hS:(yz x).length≤100000000):Calls Tryz.prog 86 #[ptr g.pb] w (Ret fun _ w'=>∃T,qcY B w w' x g T):=by
 obtain ⟨tyv,sav,mav,lov,fuv,cov,hpb,hty,hsa,hma,hlo,hfu, -⟩:=hG.prof
 obtain ⟨p1,l1,c1,rfl,hl1, -,hx1⟩:=hty.openF
 obtain ⟨p2,l2,c2,rfl,hl2, -,hx2⟩:=hsa.openF
 obtain ⟨p3,l3,c3,rfl,hl3, -,hx3⟩:=hma.openF
 obtain ⟨p4,l4,c4,rfl,hl4, -,hx4⟩:=hlo.openF
 obtain ⟨p5,l5,c5,rfl,hl5, -,hx5⟩:=hfu.openF
 obtain rfl:l1=x.types.length:=by have:=hG.types.1;simp at hl1;omega
 obtain rfl:l2=x.samples.length:=by have:=hG.sams.1;simp at hl2;omega
 obtain rfl:l3=x.mappings.length:=by have:=hG.maps.1;simp at hl3;omega
 obtain rfl:l4=x.locs.length:=by have:=hG.locs.1;simp at hl4;omega
 obtain rfl:l5=x.funcs.length:=by have:=hG.funs.1;simp at hl5;omega
 have hc0:=mc (f:=⟨w,0,[]⟩) hpb rfl
 have hS2:(yz x).length≤100000000000:=by omega
 have hS':∀{T:List ByteArray} {u:World} {mb:Nat},Tab u mb (yz x) T→T.length≤100000000:=fun h=>Nat.le_trans h.len hS
 have hn1:=hx.ntyp
 have hn2:=hx.nsam
 have hn3:=hx.tab.m.2.2
 have hn5:=hx.tab.f.2.2
 have hn4:=hx.tab.l.2.2
 simp only[List.length_map]at hn3 hn4 hn5
 refine jr (args:=[_]) [(0,_)] 0 [] [] func86 rfl ntmps86 rfl rfl .nil ?_
 refine sQ fun K1=>jb ?_
 refine zO (fun _ h=>by cases h) rfl fun b34=>?_
 refine jA (k:=K1 ?_)
 refine qP fun K2 hK2=>jb (jM (k:=?_))
 refine qcB (T:=[]) (S:=yz x) 0 rfl vA.nil' zp (by simp[yz]) hS2 rfl rfl fun T0 m0 es0 ck0 hm0 hp0 hs0 hM0 ht0=>?_
 refine jw (ji (hK2 _ _ _ (sQ fun K3=>sQ fun K4=>jb (jM (k:=jN (k:=jF 0 jz JA (k:=jL Qx hc0 0 (k:=jE zV (k:=jM (k:=K4 (jh ?_)))))))))))
 intro v1 hH1' hf1'
 have hz0:T0[0]? =some eB:=by
  rcases ht0 with rfl|rfl
  ·simp at hm0
  ·rfl
 have hmbF:w.heap.size≤b34:=hH1'.freshX (i:=0) rfl rfl rfl
 have hP0:PS B w b34 x g 0 0 0 0 0 T0 v1:=PS.init hG hf1' ⟨⟨es0,ck0,hH1'.obj (i:=0) rfl rfl,hM0⟩,hs0⟩ hz0
 clear hH1'
 generalize b34=mb at*
 refine vk (σ:=Nat×List ByteArray) (fun s=>[(0,ptr g.pb),(2,.map (some mb)),(40,.slice p1 x.types.length c1),(41,.int .i64 (x.types.length:Nat)),(42,.int .i64 (s.1:Nat))])
  (fun s w'=>s.1≤x.types.length∧PS B w mb x g s.1 0 0 0 0 s.2 w') (fun s=>x.types.length - s.1) (0,T0) sR ⟨Nat.zero_le _,hP0⟩ ?_
 rintro ⟨k1,T1⟩ u1 ⟨hk1,hP1⟩ KL hKL
 try dsimp only at hk1 hP1
 have hc0:=mc (f:=⟨u1,0,[]⟩) (jk hP1.fr rfl _ _ hpb) rfl
 refine C.begin ⟨u1,0,[]⟩ [] jx .nil ?_
 try dsimp only
 refine sQ fun K5=>jb (jS (k:=K5 (sQ fun K6=>?_)))
 refine jq rfl (fun h43=>?_) (fun h43=>?_)
 ·have hk':k1<x.types.length:=by omega
  obtain ⟨bq,rfl,hsq⟩:=hx1 ox
  have hkb:k1<g.types.length:=by rw[hG.types.1];exact hk'
  have hbe:g.types[k1]? =some g.types[k1]:=gE hkb
  have hxe:x.types[k1]? =some x.types[k1]:=gE hk'
  have hxm:x.types[k1]∈x.types:=List.getElem_mem hk'
  have hst:Blk u1 g.types[k1] tVT _:=(hP1.pt _ _ _ hbe hxe).2 (Nat.le_refl _)
  have hpe:g.per≠g.types[k1]:=fun e=>(List.nodup_cons.1 hG.ntypes).1 (e▸List.getElem_mem hkb)
  obtain ⟨es,ck,hmap,hM⟩:=hP1.tab.ex
  have hcell:=Kr (k:=k1) (v:=ptr g.types[k1]) (W1:=[tVT,1000000]) hP1.fr rfl rfl hsq (by simp[hkb])
  refine CJ.turn (W:=[tVT,1000000]) (Hp.rowMap hst hmap rfl rfl) ?_
  refine jg (K6 (sQ fun K7=>jh (sQ fun K8=>jb (jJ zV yO (k:=jL Jp hcell 0 (k:=jA (k:=K8 (sQ fun K9=>jb (jM (k:=jM (k:=jM (k:=?_))))))))))))
  refine jN (k:=jF 0 xF so9 (k:=jH 0 ag9 (k:=?_)))
  refine yH 1 rfl hM hP1.tab.sub (qio hxm zp) hS2 rfl rfl fun T1a m1a esa cka hma hpa hsa hMa=>?_
  refine jN (k:=jF 2 xF so2 (k:=jB [_,_,_,_] (_::_::_) 0 so2 (k:=K9 (CJ.t [(0,_),(2,_),(4,_),(40,_),(41,_),(42,_)] (k:=jb (jM (k:=jM (k:=jM (k:=jN (k:=jF 1 xF so9 (k:=jH 0 ag9 (k:=?_))))))))))))
  refine yH 1 rfl hMa hsa (qio hxm zp) hS2 rfl rfl fun T1b m1b esb ckb hmb hpb hsb hMb=>?_
  refine jN (k:=jF 3 xF so2 (k:=jB [_,_,_,_] (_::_::_) 0 so2 (k:=K7 (jb (jI (k:=jM (k:=jw (ji ?_))))))))
  exact fun w' hH hf=>hKL (k1+1,T1b) _ w' ⟨hk',hP1.s1 hmbF (hG.fresh.2.2.1 _ (List.getElem_mem hkb)) (List.nodup_cons.1 hG.ntypes).2 hbe hxe hpe hst (Hp.keepX (l:=[g.types[k1],mb]) hH.2.2.2.2.2.2 hf) (hpa.trans hpb) ⟨⟨_,_,hH.obj (i:=1) rfl rfl,hMb⟩,hsb⟩ ⟨_,_,hH.get (i:=0) rfl rfl,At.mk hma hpb,At.mk hmb (List.prefix_refl _)⟩⟩ (by simp only;omega) sR
 ·have hke1:k1=x.types.length:=by omega
  subst hke1
  clear hKL hk1 h43
  refine jt (K3 (CJ.t [(0,_),(2,_)] (k:=sQ fun K10=>sQ fun K11=>jb (jM (k:=jN (k:=jF 2 jz Jz (k:=jL VP hc0 2 (k:=jE JB (k:=jM (k:=K11 (jh ?_)))))))))))
  intro v2 hH2' hf2'
  refine vk (σ:=Nat×List ByteArray) (fun s=>[(0,ptr g.pb),(2,.map (some mb)),(68,.slice p2 x.samples.length c2),(69,.int .i64 (x.samples.length:Nat)),(70,.int .i64 (s.1:Nat))])
   (fun s w'=>s.1≤x.samples.length∧PS B w mb x g x.types.length s.1 0 0 0 s.2 w') (fun s=>x.samples.length - s.1) (0,T1) sR ⟨Nat.zero_le _,hP1.keep hf2'⟩ ?_
  rintro ⟨k2,T2⟩ u2 ⟨hk2,hP2⟩ KL hKL
  try dsimp only at hk2 hP2
  have hc0:=mc (f:=⟨u2,0,[]⟩) (jk hP2.fr rfl _ _ hpb) rfl
  refine C.begin ⟨u2,0,[]⟩ [] jx .nil ?_
  try dsimp only
  refine sQ fun K12=>jb (jS (k:=K12 (sQ fun K13=>?_)))
  refine jq rfl (fun h71=>?_) (fun h71=>?_)
  ·have hk':k2<x.samples.length:=by omega
   obtain ⟨bq,rfl,hsq⟩:=hx2 ox
   have hkb:k2<g.sams.length:=by rw[hG.sams.1];exact hk'
   have hbe:g.sams[k2]? =some g.sams[k2]:=gE hkb
   have hxe:x.samples[k2]? =some x.samples[k2]:=gE hk'
   have hxm:x.samples[k2]∈x.samples:=List.getElem_mem hk'
   obtain ⟨lsv,vs,lmv,nmv,hst,hls,hvs,hlm,hln⟩:=(hP2.ps _ _ _ hbe hxe).2 (Nat.le_refl _)
   obtain ⟨mo,esT,ckT,msT,rfl,hLT⟩:=hlm.x
   obtain ⟨mo2,esN,ckN,msN,rfl,hLN⟩:=hln.x
   obtain ⟨pL,lL,cL,rfl,hLl, -,hLx⟩:=hls.openF
   obtain rfl:lL=x.samples[k2].stack.length:=by simpa using hLl.symm
   obtain ⟨-, -,hst60,hLab,hsk⟩:=hx.samples _ hxm
   have hlt60:=hLab.tlen
   have hln60:=hLab.nlen
   obtain ⟨es,ck,hmap,hM⟩:=hP2.tab.ex
   have hT0:=hP2.tab.sub
   have hAT:Jq u2 mo esT ckT:=hLT.at_.keep fun c es ck h=>hP2.fr.keep _ _ h (.inr (show 1000000∉wP by decide))
   have hAN:Jq u2 mo2 esN ckN:=hLN.at_.keep fun c es ck h=>hP2.fr.keep _ _ h (.inr (show 1000000∉wP by decide))
   have hmoT:=qko hLT.at_ hAT hst hmbF
   have hmoN:=qko hLN.at_ hAN hst hmbF
   have hcell:=Kr (k:=k2) (v:=ptr g.sams[k2]) (W1:=[kY,1000000]) hP2.fr rfl rfl hsq (by simp[hkb])
   have hetl:esT.length=x.samples[k2].texts.length:=by have h1:=hLT.enc.length;have h2:=congrArg List.length hLT.keys;simp[Jv]at h2;omega
   have henl:esN.length=x.samples[k2].nums.length:=by have h1:=hLN.enc.length;have h2:=congrArg List.length hLN.keys;simp[JJ]at h2;omega
   refine CJ.turn (W:=[kY,1000000]) (Hp.rowMap hst hmap rfl rfl) ?_
   refine jg (K13 (sQ fun K14=>jh (sQ fun K15=>jb (jJ JB YT (k:=jL qcV hcell 0 (k:=jA (k:=K15 (sQ fun K16=>jb (jM (k:=jN (k:=jF 6 vl JV (k:=?_))))))))))))
   refine jB [_,_,_,_,_,_,_] (_::_::_) 0 JV (k:=K16 (sQ fun K17=>jb (jA (k:=K17 (sQ fun K18=>sQ fun K19=>jb (jM (k:=jN (k:=jF 2 vl VF (k:=jH 0 qaH (k:=?_))))))))))
   refine Xp VH (fun w' hH hf=>yR hAT hmoT hH (by intro x hx;repeat (first|exact hx|apply List.mem_cons_of_mem))) rfl rfl fun it1=>?_
   refine K19 (CJ.t [(0,_),(2,_),(6,_),(7,_),(68,_),(69,_),(70,_),(81,_)] (k:=jh ?_))
   refine jZ (σ:=List Nat×List MapEntry×Ent×Option Addr×Nat) (fun s=>[(0,ptr g.pb),(2,.map (some mb)),(6,ptr g.sams[k2]),(7,.slice s.2.2.2.1 s.2.1.length s.2.2.2.2),(68,.slice (some ⟨bq,0,none⟩) x.samples.length c2),(69,.int .i64 (x.samples.length:Nat)),(70,.int .i64 (k2:Nat)),(81,ptr it1)])
    (fun s=>s.2.2.1::itM it1 mo ckT s.1 ckT::⟨g.sams[k2],kY,[.slice pL x.samples[k2].stack.length cL,vs,.map mo,.map mo2,.map none,.slice none 0 0,.slice none 0 0],true,true,none⟩::mpE mb es ck::vh u2 [g.sams[k2],mb]) (fun s _=>Vis esT s.2.1 s.1∧Own qc 1 s.2.2.1 s.2.2.2.1 s.2.1.length s.2.2.2.2 (s.2.1.map (·.key))) (fun s=>esT.length - s.1.length)
    ([],[],qQ qc,none,0) sR (fun w' hH hf=>⟨hH.off,Vis.nil,Own.nil⟩) ?_
   rintro ⟨seen,xs,y,p,c⟩ wA ⟨hV,hO⟩ hfA hHA KLA hKLA
   try dsimp only at hV hO
   have hxl:xs.length=seen.length:=by have:=congrArg List.length hV.sn;simpa using this
   have hsl:=hV.len hLT.enc.born
   refine C.begin _ _ hfA hHA ?_
   try dsimp only
   refine sQ fun K20=>jb ?_
   refine YG 1 rfl (fun w' hH hf=>yR hAT hmoT hH (by intro x hx;repeat (first|exact hx|apply List.mem_cons_of_mem))) hLT.enc.lt (Nat.le_refl _) rfl rfl (fun hall=>?_) (fun xe hxe hns=>?_)
   ·refine jX (k:=K20 (sQ fun K21=>?_))
    refine jO rfl (jt (K18 (sQ fun K22=>jb ?_)))
    obtain ⟨ks,hks,hkn,hkm⟩:=hV.keys hLT.enc hall
    have hO':Own qc 1 y p xs.length c (ks.map .string):=hks▸hO
    have hkm':∀k,k∈ks↔k∈x.samples[k2].texts.map (·.key):=fun k=>by rw[hkm,hLT.keys];simp[Jv]
    refine jM (k:=?_)
    refine qhB (rs:=x.samples[k2].texts.map (·.key)) 0 rfl hO' hkn hkm' hLab.tpw ox rfl rfl fun vS yS hOS=>?_
    refine K22 (sQ fun K23=>sQ fun K24=>jb ?_)
    have hxl:xs.length=x.samples[k2].texts.length:=by have:=hOS.sl.1;simpa using this.symm
    refine jM (k:=jE vG (k:=jM (k:=K24 (jh ?_))))
    refine jZ (σ:=Nat×List ByteArray×List MapEntry×Nat×List (Int×Int×Int)×Ent×Option Addr×Nat) (fun s=>[(0,ptr g.pb),(2,.map (some mb)),(6,ptr g.sams[k2]),(68,.slice (some ⟨bq,0,none⟩) x.samples.length c2),(69,.int .i64 (x.samples.length:Nat)),(70,.int .i64 (k2:Nat)),(92,.slice p xs.length c),(93,.int .i64 (xs.length:Nat)),(94,.int .i64 (s.1:Nat))])
     (fun s=>s.2.2.2.2.2.1::yS::⟨g.sams[k2],kY,[.slice pL x.samples[k2].stack.length cL,vs,.map mo,.map mo2,.map none,.slice none 0 0,.slice s.2.2.2.2.2.2.1 s.2.2.2.2.1.length s.2.2.2.2.2.2.2],true,true,none⟩::mpE mb s.2.2.1 s.2.2.2.1::vh u2 [g.sams[k2],mb])
     (fun s _=>s.1≤xs.length∧vA Value.string (Js s.2.1) s.2.2.1 s.2.2.2.1∧(∀t∈s.2.1,t∈yz x)∧T2<+:s.2.1∧Own vq 3 s.2.2.2.2.2.1 s.2.2.2.2.2.2.1 s.2.2.2.2.1.length s.2.2.2.2.2.2.2 (s.2.2.2.2.1.flatMap cLb)∧LbR s.2.1 s.2.2.2.2.1 ((x.samples[k2].texts.take s.1).flatMap xG)) (fun s=>xs.length - s.1)
     (0,T2,es,ck,[],qQ vq,none,0) sR (fun w' hH hf=>⟨(hH.drop 1).off,Nat.zero_le _,hM,hT0,List.prefix_refl _,Own.nil,LbR.nil⟩) ?_
    rintro ⟨m,TB,esB,ckB,lbB,yB,qB,dB⟩ wB ⟨hm,hMB,hSB,hpB,hOB,hRB⟩ hfB hHB KLB hKLB
    try dsimp only at hm hMB hSB hpB hOB hRB
    refine C.begin _ _ hfB hHB ?_
    try dsimp only
    refine sQ fun K25=>jb (jS (k:=K25 (sQ fun K26=>?_)))
    refine jq rfl (fun h95=>?_) (fun h95=>?_)
    ·have hm':m<x.samples[k2].texts.length:=by omega
     obtain ⟨honS,hpS⟩:=hOS.pos ox
     subst hpS
     have hkv:((x.samples[k2].texts.map (·.key)).map Value.string)[m]? =some (.string x.samples[k2].texts[m].key):=by simp[hm']
     obtain ⟨vv,hvv,hov⟩:=hLT.get (i:=m) (k:=(x.samples[k2].texts[m].key,x.samples[k2].texts[m].list.map (.string))) (by simp[Jv,hm']) (.slice none 0 0)
     obtain ⟨pv,lv,cv,rfl,hvl, -,hvx⟩:=hov.openF
     obtain rfl:lv=x.samples[k2].texts[m].list.length:=by simpa using hvl.symm
     have hmem:=List.getElem_mem hm'
     have hl60:x.samples[k2].texts[m].list.length≤60:=(hLab.tl _ hmem).2.1
     refine jg (K26 (sQ fun K27=>jh (sQ fun K28=>jb (jJ vG so9 (k:=?_)))))
     refine jp rfl (fun a w ha hH hf=>kP ag9 rfl (hOS.cell (hH.get (i:=1) rfl honS) hkv) ha) (jA (k:=K28 (sQ fun K29=>jb (jM (k:=jN (k:=jF 2 vl VF (k:=jH 2 qaH (k:=jM (k:=?_)))))))))
     refine jp rfl (fun a w ha hH hf=>qce VH (qR ru9) hLT.enc zv27 rfl rfl ha (yR hAT hmoT hH (by intro x hx;repeat (first|exact hx|apply List.mem_cons_of_mem)))) ?_
     refine jV hvv ?_
     refine jA (k:=K29 (CJ.t [(0,_),(2,_),(6,_),(10,_),(11,_),(68,_),(69,_),(70,_),(92,_),(93,_),(94,_)] (k:=sQ fun K30=>jb (jM (k:=jE vG (k:=jM (k:=K30 (jh ?_))))))))
     refine jZ (σ:=Nat×List ByteArray×List MapEntry×Nat×List (Int×Int×Int)×Ent×Option Addr×Nat) (fun s=>[(0,ptr g.pb),(2,.map (some mb)),(6,ptr g.sams[k2]),(10,.string x.samples[k2].texts[m].key),(68,.slice (some ⟨bq,0,none⟩) x.samples.length c2),(69,.int .i64 (x.samples.length:Nat)),(70,.int .i64 (k2:Nat)),(92,.slice (some ⟨yS.b,0,none⟩) xs.length c),(93,.int .i64 (xs.length:Nat)),(94,.int .i64 (m:Nat)),(104,.slice pv x.samples[k2].texts[m].list.length cv),(105,.int .i64 (x.samples[k2].texts[m].list.length:Nat)),(106,.int .i64 (s.1:Nat))])
      (fun s=>s.2.2.2.2.2.1::yS::⟨g.sams[k2],kY,[.slice pL x.samples[k2].stack.length cL,vs,.map mo,.map mo2,.map none,.slice none 0 0,.slice s.2.2.2.2.2.2.1 s.2.2.2.2.1.length s.2.2.2.2.2.2.2],true,true,none⟩::mpE mb s.2.2.1 s.2.2.2.1::vh u2 [g.sams[k2],mb])
      (fun s _=>s.1≤x.samples[k2].texts[m].list.length∧vA Value.string (Js s.2.1) s.2.2.1 s.2.2.2.1∧(∀t∈s.2.1,t∈yz x)∧T2<+:s.2.1∧Own vq 3 s.2.2.2.2.2.1 s.2.2.2.2.2.2.1 s.2.2.2.2.1.length s.2.2.2.2.2.2.2 (s.2.2.2.2.1.flatMap cLb)∧LbR s.2.1 s.2.2.2.2.1 ((x.samples[k2].texts.take m).flatMap xG++(xG x.samples[k2].texts[m]).take s.1)) (fun s=>x.samples[k2].texts[m].list.length - s.1)
      (0,TB,esB,ckB,lbB,yB,qB,dB) sR (fun w' hH hf=>⟨hH,Nat.zero_le _,hMB,hSB,hpB,hOB,by simpa using hRB⟩) ?_
     rintro ⟨j,TC,esC,ckC,lbC,yC,qC,dC⟩ wC ⟨hj,hMC,hSC,hpC,hOC,hRC⟩ hfC hHC KLC hKLC
     try dsimp only at hj hMC hSC hpC hOC hRC
     refine C.begin _ _ hfC hHC ?_
     try dsimp only
     refine sQ fun K31=>jb (jS (k:=K31 (sQ fun K32=>?_)))
     refine jq rfl (fun h107=>?_) (fun h107=>?_)
     ·have hj':j<x.samples[k2].texts[m].list.length:=by omega
      obtain ⟨bv,rfl,hvs4⟩:=hvx ox
      have hcellv:=Kr (k:=j) (v:=.string x.samples[k2].texts[m].list[j]) (W1:=[kY,1000000]) hP2.fr rfl rfl hvs4 (by simp[hj'])
      have hlb:=qfu hLab m j hm'
      rw[← hRC.1]at hlb
      refine jg (K32 (sQ fun K33=>jh (sQ fun K34=>jb (jJ vG so9 (k:=jL ag9 hcellv 0 (k:=jA (k:=K34 ?_)))))))
      refine jC 14 (lts [0,1,2,3,4,5,6,8,9]++(7,false)::((10,false)::(lts [11]++(12,false)::(13,false)::(14,false)::(15,false)::(16,false)::[]))) [2] rfl (by kernel_rfl) (by kernel_rfl) (dM [2] (k:=dM [2] (k:=dN [2] (k:=dF [2] 6 vl JV (k:=dH [2] 0 ZA (k:=dM [2] (k:=dM [2] (k:=dM [2] (k:=dM [2] (k:=dE (h:=fun Kd=>?_)))))))))))
      refine yH 3 rfl hMC hSC (qdP hxm (qgF hmem)) hS2 rfl rfl fun Ta na esa cka qma hpa hsa hMa=>?_
      refine Kd (sb [2]) (dE (h:=fun Kd=>?_))
      refine yH 3 rfl hMa hsa (qdP hxm (qgD hmem (List.getElem_mem hj'))) hS2 rfl rfl fun Tb nb esb ckb qmb hpb' hsb hMb=>?_
      refine Kd (sb [2]) (jo rfl rfl (jd [2] rfl) (fun _ _ h=>vb (cs:=[_,_,(.int .i64 0)]) qig rfl rfl h) (dE (h:=fun Kd=>kj Qu Qt qbF rfl rfl rfl rfl rfl fun b122=>Kd (sb [3]) (dE (h:=fun Kd=>?_)))))
      refine qY 0 rfl hOC Qu qhW rfl rfl rfl rfl rfl ox rfl fun y123 p123 c123 hO123=>?_
      refine Kd (sb [2]) (dE (h:=fun Kd=>jN (k:=Kd (.inl rfl) (dE (h:=fun Kd=>jF 6 vl JV (k:=Kd (.inl rfl) (dE (h:=fun Kd=>jB [_,_,_,_,_,_,_] (_::_::_::_::_) 2 JV (k:=Kd (.inl rfl) (K33 (CJ.t [(0,_),(2,_),(6,_),(10,_),(68,_),(69,_),(70,_),(92,_),(93,_),(94,_),(104,_),(105,_),(106,_)] (k:=jb (jI (k:=?_))))))))))))))
      refine jM (k:=jw (ji ?_))
      have hpush:=LbR.push (q:=((na:Int),(nb:Int),(0:Int))) (e:=(x.samples[k2].texts[m].key,some x.samples[k2].texts[m].list[j],(0:Int))) hRC (hpa.trans hpb') ⟨At.mk qma hpb',At.mk qmb (List.prefix_refl _),rfl⟩
      have htk:(xG x.samples[k2].texts[m]).take (j+1)=(xG x.samples[k2].texts[m]).take j++[(x.samples[k2].texts[m].key,some x.samples[k2].texts[m].list[j],(0:Int))]:=by
       rw[← tG (by simpa[xG]using hj')];simp[xG]
      rw[List.append_assoc, ← htk]at hpush
      exact fun w' hH hf=>hKLC (j+1,Tb,esb,ckb,lbC++[((na:Int),(nb:Int),(0:Int))],y123,p123,c123) _ w' ⟨hj',hMb,hsb,hpC.trans (hpa.trans hpb'),by have h:Own vq 3 y123 p123 (lbC.length+1) c123 (lbC.flatMap cLb++[.int .i64 (na:Int),.int .i64 (nb:Int),.int .i64 0]):=hO123;simpa[List.flatMap_append,cLb]using h,hpush⟩ hf (by simp only[lA,List.length_singleton];exact hH) (by simp only;omega) sR
     ·have hje:j=x.samples[k2].texts[m].list.length:=by omega
      have hRD:=hRC
      have etk:(xG x.samples[k2].texts[m]).take j=xG x.samples[k2].texts[m]:=tL (by simp[xG,hje])
      rw[etk, ← xU (g:=xG) hm']at hRD
      refine jt (K27 (jb (jI (k:=jM (k:=jw (ji ?_))))))
      exact fun w' hH hf=>hKLB (m+1,TC,esC,ckC,lbC,yC,qC,dC) _ w' ⟨by simp only;omega,hMC,hSC,hpC,hOC,hRD⟩ hf hH (by simp only;omega) sR
    ·have hme:m=x.samples[k2].texts.length:=by omega
     rw[hme,tL (Nat.le_refl _)]at hRB
     refine jt (K23 (sQ fun K35=>jb (jA (k:=K35 (sQ fun K36=>sQ fun K37=>jb (jM (k:=jN (k:=jF 3 vl VE (k:=jH 2 qaG (k:=?_))))))))))
     refine Xp VG (fun w' hH hf=>yR hAN hmoN hH (by intro x hx;repeat (first|exact hx|apply List.mem_cons_of_mem))) rfl rfl fun it2=>?_
     refine K37 (CJ.t [(0,_),(2,_),(6,_),(14,_),(68,_),(69,_),(70,_),(132,_)] (k:=jh ?_))
     refine jZ (σ:=List Nat×List MapEntry×Ent×Option Addr×Nat) (fun s=>[(0,ptr g.pb),(2,.map (some mb)),(6,ptr g.sams[k2]),(14,.slice s.2.2.2.1 s.2.1.length s.2.2.2.2),(68,.slice (some ⟨bq,0,none⟩) x.samples.length c2),(69,.int .i64 (x.samples.length:Nat)),(70,.int .i64 (k2:Nat)),(132,ptr it2)])
      (fun s=>s.2.2.1::itM it2 mo2 ckN s.1 ckN::yB::⟨g.sams[k2],kY,[.slice pL x.samples[k2].stack.length cL,vs,.map mo,.map mo2,.map none,.slice none 0 0,.slice qB lbB.length dB],true,true,none⟩::mpE mb esB ckB::vh u2 [g.sams[k2],mb]) (fun s _=>Vis esN s.2.1 s.1∧Own qc 1 s.2.2.1 s.2.2.2.1 s.2.1.length s.2.2.2.2 (s.2.1.map (·.key))) (fun s=>esN.length - s.1.length)
      ([],[],qQ qc,none,0) sR (fun w' hH hf=>⟨(hH.drop 2).off,Vis.nil,Own.nil⟩) ?_
     rintro ⟨seen2,xs2,y2,pz,cz⟩ wD ⟨hV,hO⟩ hfD hHD KLD hKLD
     try dsimp only at hV hO
     have hxl2:xs2.length=seen2.length:=by have:=congrArg List.length hV.sn;simpa using this
     have hsl2:=hV.len hLN.enc.born
     refine C.begin _ _ hfD hHD ?_
     try dsimp only
     refine sQ fun K38=>jb ?_
     refine YG 1 rfl (fun w' hH hf=>yR hAN hmoN hH (by intro x hx;repeat (first|exact hx|apply List.mem_cons_of_mem))) hLN.enc.lt (Nat.le_refl _) rfl rfl (fun hall2=>?_) (fun xe hxe hns=>?_)
     ·refine jX (k:=K38 (sQ fun K39=>?_))
      refine jO rfl (jt (K36 (sQ fun K40=>jb ?_)))
      obtain ⟨ks2,hks2,hkn2,hkm2⟩:=hV.keys hLN.enc hall2
      have hO':Own qc 1 y2 pz xs2.length cz (ks2.map .string):=hks2▸hO
      have hkm2':∀k,k∈ks2↔k∈x.samples[k2].nums.map (·.key):=fun k=>by rw[hkm2,hLN.keys];simp[JJ]
      refine jM (k:=?_)
      refine qhB (rs:=x.samples[k2].nums.map (·.key)) 0 rfl hO' hkn2 hkm2' hLab.npw ox rfl rfl fun vS2 yS2 hOS2=>?_
      refine K40 (sQ fun K41=>sQ fun K42=>jb ?_)
      have hxl3:xs2.length=x.samples[k2].nums.length:=by have:=hOS2.sl.1;simpa using this.symm
      refine jM (k:=jE vG (k:=jM (k:=K42 (jh ?_))))
      refine jZ (σ:=Nat×List ByteArray×List MapEntry×Nat×List (Int×Int×Int)×Ent×Option Addr×Nat) (fun s=>[(0,ptr g.pb),(2,.map (some mb)),(6,ptr g.sams[k2]),(68,.slice (some ⟨bq,0,none⟩) x.samples.length c2),(69,.int .i64 (x.samples.length:Nat)),(70,.int .i64 (k2:Nat)),(143,.slice pz xs2.length cz),(144,.int .i64 (xs2.length:Nat)),(145,.int .i64 (s.1:Nat))])
       (fun s=>yS2::s.2.2.2.2.2.1::⟨g.sams[k2],kY,[.slice pL x.samples[k2].stack.length cL,vs,.map mo,.map mo2,.map none,.slice none 0 0,.slice s.2.2.2.2.2.2.1 s.2.2.2.2.1.length s.2.2.2.2.2.2.2],true,true,none⟩::mpE mb s.2.2.1 s.2.2.2.1::vh u2 [g.sams[k2],mb])
       (fun s _=>s.1≤xs2.length∧vA Value.string (Js s.2.1) s.2.2.1 s.2.2.2.1∧(∀t∈s.2.1,t∈yz x)∧T2<+:s.2.1∧Own vq 3 s.2.2.2.2.2.1 s.2.2.2.2.2.2.1 s.2.2.2.2.1.length s.2.2.2.2.2.2.2 (s.2.2.2.2.1.flatMap cLb)∧LbR s.2.1 s.2.2.2.2.1 (x.samples[k2].texts.flatMap xG++(x.samples[k2].nums.take s.1).flatMap yr)) (fun s=>xs2.length - s.1)
       (0,TB,esB,ckB,lbB,yB,qB,dB) sR (fun w' hH hf=>⟨hH.drop 1,Nat.zero_le _,hMB,hSB,hpB,hOB,by simpa using hRB⟩) ?_
      rintro ⟨m,TB2,esB2,ckB2,lbB2,yB2,qB2,dB2⟩ wB2 ⟨hm,hMB2,hSB2,hpB2,hOB2,hRB2⟩ hfB2 hHB2 KLB2 hKLB2
      try dsimp only at hm hMB2 hSB2 hpB2 hOB2 hRB2
      refine C.begin _ _ hfB2 hHB2 ?_
      try dsimp only
      refine sQ fun K43=>jb (jS (k:=K43 (sQ fun K44=>?_)))
      refine jq rfl (fun h146=>?_) (fun h146=>?_)
      ·have hm':m<x.samples[k2].nums.length:=by omega
       obtain ⟨honS,hpS⟩:=hOS2.pos ox
       subst hpS
       have hkv:((x.samples[k2].nums.map (·.key)).map Value.string)[m]? =some (.string x.samples[k2].nums[m].key):=by simp[hm']
       obtain ⟨vv,hvv,hov⟩:=hLN.get (i:=m) (k:=(x.samples[k2].nums[m].key,x.samples[k2].nums[m].list.map (.int .i64))) (by simp[JJ,hm']) (.slice none 0 0)
       obtain ⟨pv,lv,cv,rfl,hvl, -,hvx⟩:=hov.openF
       obtain rfl:lv=x.samples[k2].nums[m].list.length:=by simpa using hvl.symm
       have hmem:=List.getElem_mem hm'
       have hl60:x.samples[k2].nums[m].list.length≤60:=(hLab.nl _ hmem).2
       refine jg (K44 (sQ fun K45=>jh (sQ fun K46=>jb (jJ vG so9 (k:=?_)))))
       refine jp rfl (fun a w ha hH hf=>kP ag9 rfl (hOS2.cell (hH.get (i:=0) rfl honS) hkv) ha) (jA (k:=K46 (sQ fun K47=>jb (jM (k:=jN (k:=jF 3 vl VE (k:=jH 2 qaG (k:=jM (k:=?_)))))))))
       refine jp rfl (fun a w ha hH hf=>qce VG (qR ru9) hLN.enc zv53 rfl rfl ha (yR hAN hmoN hH (by intro x hx;repeat (first|exact hx|apply List.mem_cons_of_mem)))) ?_
       refine jV hvv ?_
       refine jA (k:=K47 (CJ.t [(0,_),(2,_),(6,_),(17,_),(18,_),(68,_),(69,_),(70,_),(143,_),(144,_),(145,_)] (k:=sQ fun K48=>jb (jM (k:=jE xI (k:=jM (k:=K48 (jh ?_))))))))
       refine jZ (σ:=Nat×List ByteArray×List MapEntry×Nat×List (Int×Int×Int)×Ent×Option Addr×Nat) (fun s=>[(0,ptr g.pb),(2,.map (some mb)),(6,ptr g.sams[k2]),(17,.string x.samples[k2].nums[m].key),(68,.slice (some ⟨bq,0,none⟩) x.samples.length c2),(69,.int .i64 (x.samples.length:Nat)),(70,.int .i64 (k2:Nat)),(143,.slice (some ⟨yS2.b,0,none⟩) xs2.length cz),(144,.int .i64 (xs2.length:Nat)),(145,.int .i64 (m:Nat)),(155,.slice pv x.samples[k2].nums[m].list.length cv),(156,.int .i64 (x.samples[k2].nums[m].list.length:Nat)),(157,.int .i64 (s.1:Nat))])
        (fun s=>yS2::s.2.2.2.2.2.1::⟨g.sams[k2],kY,[.slice pL x.samples[k2].stack.length cL,vs,.map mo,.map mo2,.map none,.slice none 0 0,.slice s.2.2.2.2.2.2.1 s.2.2.2.2.1.length s.2.2.2.2.2.2.2],true,true,none⟩::mpE mb s.2.2.1 s.2.2.2.1::vh u2 [g.sams[k2],mb])
        (fun s _=>s.1≤x.samples[k2].nums[m].list.length∧vA Value.string (Js s.2.1) s.2.2.1 s.2.2.2.1∧(∀t∈s.2.1,t∈yz x)∧T2<+:s.2.1∧Own vq 3 s.2.2.2.2.2.1 s.2.2.2.2.2.2.1 s.2.2.2.2.1.length s.2.2.2.2.2.2.2 (s.2.2.2.2.1.flatMap cLb)∧LbR s.2.1 s.2.2.2.2.1 (x.samples[k2].texts.flatMap xG++(x.samples[k2].nums.take m).flatMap yr++(yr x.samples[k2].nums[m]).take s.1)) (fun s=>x.samples[k2].nums[m].list.length - s.1)
        (0,TB2,esB2,ckB2,lbB2,yB2,qB2,dB2) sR (fun w' hH hf=>⟨hH,Nat.zero_le _,hMB2,hSB2,hpB2,hOB2,by simpa using hRB2⟩) ?_
       rintro ⟨j,TC,esC,ckC,lbC,yC,qC,dC⟩ wC ⟨hj,hMC,hSC,hpC,hOC,hRC⟩ hfC hHC KLC hKLC
       try dsimp only at hj hMC hSC hpC hOC hRC
       refine C.begin _ _ hfC hHC ?_
       try dsimp only
       refine sQ fun K49=>jb (jS (k:=K49 (sQ fun K50=>?_)))
       refine jq rfl (fun h158=>?_) (fun h158=>?_)
       ·have hj':j<x.samples[k2].nums[m].list.length:=by omega
        obtain ⟨bv,rfl,hvs4⟩:=hvx ox
        have hcellv:=Kr (k:=j) (v:=.int .i64 x.samples[k2].nums[m].list[j]) (W1:=[kY,1000000]) hP2.fr rfl rfl hvs4 (by simp[hj'])
        have hlb:=qft hLab m j hm'
        rw[← hRC.1]at hlb
        refine jg (K50 (sQ fun K51=>jh (sQ fun K52=>jb (jJ xI so2 (k:=jL ag2 hcellv 0 (k:=jA (k:=K52 ?_)))))))
        refine jC 12 (lts [0,1,2,3,4,5,6,8]++(7,false)::(lts [9]++(10,false)::(11,false)::(12,false)::(13,false)::(14,false)::[])) [2] rfl (by kernel_rfl) (by kernel_rfl) (dM [2] (k:=dM [2] (k:=dN [2] (k:=dF [2] 6 vl JV (k:=dH [2] 0 ZA (k:=dM [2] (k:=dM [2] (k:=dM [2] (k:=dE (h:=fun Kd=>?_))))))))))
        refine yH 3 rfl hMC hSC (qdP hxm (qgE hmem)) hS2 rfl rfl fun Ta na esa cka qma hpa hsa hMa=>?_
        refine Kd (sb [2]) (jo rfl rfl (jd [2] rfl) (fun _ _ h=>vb (cs:=[_,(.int .i64 0),_]) qig rfl rfl h) (dE (h:=fun Kd=>kj Qu Qt qbF rfl rfl rfl rfl rfl fun b171=>Kd (sb [3]) (dE (h:=fun Kd=>?_)))))
        refine qY 1 rfl hOC Qu qhW rfl rfl rfl rfl rfl ox rfl fun y172 p172 c172 hO172=>?_
        refine Kd (sb [2]) (dE (h:=fun Kd=>jN (k:=Kd (.inl rfl) (dE (h:=fun Kd=>jF 6 vl JV (k:=Kd (.inl rfl) (dE (h:=fun Kd=>jB [_,_,_,_,_,_,_] (_::_::_::_::_) 2 JV (k:=Kd (.inl rfl) (K51 (CJ.t [(0,_),(2,_),(6,_),(17,_),(68,_),(69,_),(70,_),(143,_),(144,_),(145,_),(155,_),(156,_),(157,_)] (k:=jb (jI (k:=?_))))))))))))))
        refine jM (k:=jw (ji ?_))
        have hpush:=LbR.push (q:=((na:Int),(0:Int),x.samples[k2].nums[m].list[j])) (e:=(x.samples[k2].nums[m].key,none,x.samples[k2].nums[m].list[j])) hRC hpa ⟨At.mk qma (List.prefix_refl _),rfl,rfl⟩
        have htk:(yr x.samples[k2].nums[m]).take (j+1)=(yr x.samples[k2].nums[m]).take j++[(x.samples[k2].nums[m].key,none,x.samples[k2].nums[m].list[j])]:=by
         rw[← tG (by simpa[yr]using hj')];simp[yr]
        rw[List.append_assoc, ← htk]at hpush
        exact fun w' hH hf=>hKLC (j+1,Ta,esa,cka,lbC++[((na:Int),(0:Int),x.samples[k2].nums[m].list[j])],y172,p172,c172) _ w' ⟨hj',hMa,hsa,hpC.trans hpa,by have h:Own vq 3 y172 p172 (lbC.length+1) c172 (lbC.flatMap cLb++[.int .i64 (na:Int),.int .i64 0,.int .i64 x.samples[k2].nums[m].list[j]]):=hO172;simpa[List.flatMap_append,cLb]using h,hpush⟩ hf (by simp only[lA,List.length_singleton];exact hH) (by simp only;omega) sR
       ·have hje:j=x.samples[k2].nums[m].list.length:=by omega
        have hRD:=hRC
        have etk:(yr x.samples[k2].nums[m]).take j=yr x.samples[k2].nums[m]:=tL (by simp[yr,hje])
        rw[etk,List.append_assoc, ← xU (g:=yr) hm']at hRD
        refine jt (K45 (jb (jI (k:=jM (k:=jw (ji ?_))))))
        exact fun w' hH hf=>hKLB2 (m+1,TC,esC,ckC,lbC,yC,qC,dC) _ w' ⟨by simp only;omega,hMC,hSC,hpC,hOC,hRD⟩ hf hH (by simp only;omega) sR
      ·have hme:m=x.samples[k2].nums.length:=by omega
       rw[hme,tL (Nat.le_refl _)]at hRB2
       refine jt (K41 (sQ fun K53=>jb (jM (k:=jN (k:=jF 5 vl XH (k:=jB [_,_,_,_,_,_,_] (_::_::_::_::_) 2 XH (k:=K53 (sQ fun K54=>jb (jM (k:=jN (k:=jF 0 vl xq (k:=jH 2 zY (k:=?_)))))))))))))
       refine jE xw (k:=jM (k:=K54 (CJ.t [(0,_),(2,_),(6,_),(68,_),(69,_),(70,_),(183,_),(184,_),(185,_)] (k:=jh ?_))))
       refine jZ (σ:=Nat×Ent×Option Addr×Nat) (fun s=>[(0,ptr g.pb),(2,.map (some mb)),(6,ptr g.sams[k2]),(68,.slice (some ⟨bq,0,none⟩) x.samples.length c2),(69,.int .i64 (x.samples.length:Nat)),(70,.int .i64 (k2:Nat)),(183,.slice pL x.samples[k2].stack.length cL),(184,.int .i64 (x.samples[k2].stack.length:Nat)),(185,.int .i64 (s.1:Nat))])
        (fun s=>s.2.1::yB2::⟨g.sams[k2],kY,[.slice pL x.samples[k2].stack.length cL,vs,.map mo,.map mo2,.map none,.slice s.2.2.1 s.1 s.2.2.2,.slice qB2 lbB2.length dB2],true,true,none⟩::mpE mb esB2 ckB2::vh u2 [g.sams[k2],mb])
        (fun s _=>s.1≤x.samples[k2].stack.length∧Own vR 1 s.2.1 s.2.2.1 s.1 s.2.2.2 ((x.samples[k2].stack.take s.1).map fun z=>.int .u64 (lid x z))) (fun s=>x.samples[k2].stack.length - s.1)
        (0,qQ vR,none,0) sR (fun w' hH hf=>⟨(hH.drop 0).off,Nat.zero_le _,Own.nil⟩) ?_
       rintro ⟨i,yI,pI,cI⟩ wE ⟨hi,hOI⟩ hfE hHE KLE hKLE
       try dsimp only at hi hOI
       refine C.begin _ _ hfE hHE ?_
       try dsimp only
       refine sQ fun K55=>jb (jS (k:=K55 (sQ fun K56=>?_)))
       refine jq rfl (fun h186=>?_) (fun h186=>?_)
       ·have hi':i<x.samples[k2].stack.length:=by omega
        obtain ⟨bL,rfl,hLs⟩:=hLx ox
        obtain ⟨hz0,hzl⟩:=hsk _ (List.getElem_mem hi')
        have hzl':x.samples[k2].stack[i].toNat<x.locs.length:=by omega
        have hzb:x.samples[k2].stack[i].toNat<g.locs.length:=by rw[hG.locs.1];exact hzl'
        obtain ⟨lsz,hlb, -⟩:=(hP2.pl _ _ _ (gE hzb) (gE hzl')).2 (Nat.zero_le _)
        have hcellL:=Kr (k:=i) (v:=ptr g.locs[x.samples[k2].stack[i].toNat]) (W1:=[kY,1000000]) hP2.fr rfl rfl hLs (by simp[hi',qe,hz0,hzb])
        have hlc:=mc (f:=⟨u2,0,[kY,1000000]⟩) hlb rfl
        refine jg (K56 (sQ fun K57=>jh (sQ fun K58=>jb (jJ xw JW (k:=jL VO hcellL 0 (k:=jA (k:=K58 ?_)))))))
        refine jC 11 (lts [0,1,2,3,4,5,6,7,8]++(9,false)::(10,false)::(11,false)::(12,false)::(13,false)::[]) [2] rfl (by kernel_rfl) (by kernel_rfl) (dM [2] (k:=dM [2] (k:=dN [2] (k:=dF [2] 5 vl XH (k:=dH [2] 0 qgf (k:=dM [2] (k:=dN [2] (k:=dF [2] 0 vc kU (k:=dL [2] vy hlc 0 (k:=dE (h:=fun Kd=>?_)))))))))))
        refine kj zm kU qdg rfl rfl rfl rfl rfl fun b198=>Kd (sb [3]) (dE (h:=fun Kd=>?_))
        refine qY 0 rfl hOI zm qdI rfl rfl rfl rfl rfl ox rfl fun y199 p199 c199 hO199=>?_
        refine Kd (sb [2]) (dE (h:=fun Kd=>jN (k:=Kd (.inl rfl) (dE (h:=fun Kd=>jF 5 vl XH (k:=Kd (.inl rfl) (dE (h:=fun Kd=>jB [_,_,_,_,_,_,_] (_::_::_::_::_) 2 XH (k:=Kd (.inl rfl) (K57 (CJ.t [(0,_),(2,_),(6,_),(68,_),(69,_),(70,_),(183,_),(184,_),(185,_)] (k:=jb (jI (k:=?_))))))))))))))
        refine jM (k:=jw (ji ?_))
        exact fun w' hH hf=>hKLE (i+1,y199,p199,c199) _ w' ⟨hi',by have h:Own vR 1 y199 p199 (i+1) c199 (((x.samples[k2].stack.take i).map fun z=>.int .u64 (lid x z))++[.int .u64 x.locs[x.samples[k2].stack[i].toNat].id]):=hO199;rw[← tG hi',List.map_append];simpa[qjj hz0 (gE hzl')]using h⟩ hf hH (by simp only;omega) sR
       ·have hie:i=x.samples[k2].stack.length:=by omega
        have hOI2:Own vR 1 yI pI i cI (x.samples[k2].stack.map fun z=>.int .u64 (lid x z)):=by
         have h:=hOI
         rwa [show x.samples[k2].stack.take i=x.samples[k2].stack from tL ox]at h
        refine jt (K14 (jb (jI (k:=jM (k:=jw (ji ?_))))))
        exact fun w' hH hf=>hKL (k2+1,TB2) _ w' ⟨hk',hP2.s2 hmbF (hG.fresh.2.2.2.2.2.2 _ (List.getElem_mem hkb)) hG.nsams hbe hxe hst (Hp.keepX (l:=[g.sams[k2],mb]) hH.2.2.2.2.2.2.2.2.2.2.2.2 hf) hpB2 ⟨⟨_,_,hH.obj (i:=3) rfl rfl,hMB2⟩,hSB2⟩ ⟨_,_,_,_,_,_,lbB2,hH.get (i:=2) rfl rfl,hvs,hOI2.os hH (i:=0) rfl,hOB2.os hH (i:=1) rfl,hRB2⟩⟩ (by simp only;omega) sR
     ·refine jX (k:=K38 (sQ fun K59=>?_))
      refine ql rfl (jg (K59 (jh (sQ fun K60=>jb ?_))))
      refine jp rfl (fun a w ha hH hf=>Xi 1 rfl (fun w' hH hf=>yR hAN hmoN hH (by intro x hx;repeat (first|exact hx|apply List.mem_cons_of_mem))) rfl hxe hLN.enc.born ha hH hf) ?_
      refine jX (k:=?_)
      obtain ⟨q1,hq1,hqk, -⟩:=Jc hLN.enc hxe
      refine jV hqk ?_
      refine jA (k:=K60 (jb (jM (k:=jM (k:=?_)))))
      refine kj vG so9 zv9 rfl rfl rfl rfl rfl fun b139=>?_
      refine qY 0 rfl hO vG el9 rfl rfl rfl rfl rfl ox rfl fun y140 p140 c140 hO140=>?_
      refine jA (k:=jw (Qq (ji ?_)))
      have hlt:seen2.length<esN.length:=by
       have:=(hV.push hxe hns).len hLN.enc.born
       simp at this;omega
      exact fun w' hH hf=>hKLD (seen2++[xe.born],xs2++[xe],y140,p140,c140) _ w' ⟨hV.push hxe hns,by have h:Own qc 1 y140 p140 (xs2.length+1) c140 (xs2.map (·.key)++[.string q1.1]):=hO140;simpa[hqk]using h⟩ hf hH (by simp only[lA,List.length_singleton];omega) ⟨rfl,rfl,rfl,by simp only[lA,List.length_singleton];rfl,rfl,rfl,rfl,rfl,trivial⟩
   ·refine jX (k:=K20 (CJ.t [(0,_),(2,_),(6,_),(7,_),(68,_),(69,_),(70,_),(81,_),(83,_)] (k:=sQ fun K61=>?_)))
    refine ql rfl (jg (K61 (jh (sQ fun K62=>jb ?_))))
    refine jp rfl (fun a w ha hH hf=>Xi 1 rfl (fun w' hH hf=>yR hAT hmoT hH (by intro x hx;repeat (first|exact hx|apply List.mem_cons_of_mem))) rfl hxe hLT.enc.born ha hH hf) ?_
    refine jX (k:=?_)
    obtain ⟨q1,hq1,hqk, -⟩:=Jc hLT.enc hxe
    refine jV hqk ?_
    refine jA (k:=K62 (jb (jM (k:=jM (k:=?_)))))
    refine kj vG so9 zv9 rfl rfl rfl rfl rfl fun b88=>?_
    refine qY 0 rfl hO vG el9 rfl rfl rfl rfl rfl ox rfl fun y89 p89 c89 hO89=>?_
    refine jA (k:=jw (Qq (ji ?_)))
    have hlt:seen.length<esT.length:=by
     have:=(hV.push hxe hns).len hLT.enc.born
     simp at this;omega
    exact fun w' hH hf=>hKLA (seen++[xe.born],xs++[xe],y89,p89,c89) _ w' ⟨hV.push hxe hns,by have h:Own qc 1 y89 p89 (xs.length+1) c89 (xs.map (·.key)++[.string q1.1]):=hO89;simpa[hqk]using h⟩ hf hH (by simp only[lA,List.length_singleton];omega) ⟨rfl,rfl,rfl,by simp only[lA,List.length_singleton];rfl,rfl,rfl,rfl,rfl,trivial⟩
  ·have hke2:k2=x.samples.length:=by omega
   subst hke2
   clear hKL hk2 h71
   refine jt (K10 (sQ fun K63=>sQ fun K64=>jb (jM (k:=jN (k:=jF 3 jz zD (k:=jL KX hc0 3 (k:=jE zn (k:=jM (k:=K64 (CJ.t [(0,_),(2,_),(207,_),(208,_),(209,_)] (k:=jh ?_)))))))))))
   intro v3 hH3' hf3'
   refine vk (σ:=Nat×List ByteArray) (fun s=>[(0,ptr g.pb),(2,.map (some mb)),(207,.slice p3 x.mappings.length c3),(208,.int .i64 (x.mappings.length:Nat)),(209,.int .i64 (s.1:Nat))])
    (fun s w'=>s.1≤x.mappings.length∧PS B w mb x g x.types.length x.samples.length s.1 0 0 s.2 w') (fun s=>x.mappings.length - s.1) (0,T2) sR ⟨Nat.zero_le _,hP2.keep hf3'⟩ ?_
   rintro ⟨k3,T3⟩ u3 ⟨hk3,hP3⟩ KL hKL
   try dsimp only at hk3 hP3
   have hc0:=mc (f:=⟨u3,0,[]⟩) (jk hP3.fr rfl _ _ hpb) rfl
   refine C.begin ⟨u3,0,[]⟩ [] jx .nil ?_
   try dsimp only
   refine sQ fun K65=>jb (jS (k:=K65 (sQ fun K66=>?_)))
   refine jq rfl (fun h210=>?_) (fun h210=>?_)
   ·have hk':k3<x.mappings.length:=by omega
    obtain ⟨bq,rfl,hsq⟩:=hx3 ox
    have hkb:k3<g.maps.length:=by rw[hG.maps.1];exact hk'
    have hbe:g.maps[k3]? =some g.maps[k3]:=gE hkb
    have hxe:x.mappings[k3]? =some x.mappings[k3]:=gE hk'
    have hxm:x.mappings[k3]∈x.mappings:=List.getElem_mem hk'
    have hst:Blk u3 g.maps[k3] vO _:=(hP3.pm _ _ _ hbe hxe).2 (Nat.le_refl _)
    obtain ⟨es,ck,hmap,hM⟩:=hP3.tab.ex
    have hcell:=Kr (k:=k3) (v:=ptr g.maps[k3]) (W1:=[vO,1000000]) hP3.fr rfl rfl hsq (by simp[hkb])
    refine CJ.turn (W:=[vO,1000000]) (Hp.rowMap hst hmap rfl rfl) ?_
    refine jg (K66 (sQ fun K67=>jh (sQ fun K68=>jb (jJ zn zT (k:=jL Qw hcell 0 (k:=jA (k:=K68 (sQ fun K69=>jb (jM (k:=jM (k:=jM (k:=?_))))))))))))
    refine jN (k:=jF 4 vg so9 (k:=jH 0 ag9 (k:=?_)))
    refine yH 1 rfl hM hP3.tab.sub (qip hxm zp) hS2 rfl rfl fun T3a m3a esa cka hma hpa hsa hMa=>?_
    refine jN (k:=jF 10 vg so2 (k:=jB [_,_,_,_,_,_,_,_,_,_,_,_] (_::_::_) 0 so2 (k:=K69 (CJ.t [(0,_),(2,_),(24,_),(207,_),(208,_),(209,_)] (k:=jb (jM (k:=jM (k:=jM (k:=jN (k:=jF 5 vg so9 (k:=jH 0 ag9 (k:=?_))))))))))))
    refine yH 1 rfl hMa hsa (qip hxm zp) hS2 rfl rfl fun T3b m3b esb ckb hmb hpb hsb hMb=>?_
    refine jN (k:=jF 11 vg so2 (k:=jB [_,_,_,_,_,_,_,_,_,_,_,_] (_::_::_) 0 so2 (k:=K67 (jb (jI (k:=jM (k:=jw (ji ?_))))))))
    exact fun w' hH hf=>hKL (k3+1,T3b) _ w' ⟨hk',hP3.s3 hmbF (hG.fresh.2.2.2.1 _ (List.getElem_mem hkb)) hG.nmaps hbe hxe hst (Hp.keepX (l:=[g.maps[k3],mb]) hH.2.2.2.2.2.2 hf) (hpa.trans hpb) ⟨⟨_,_,hH.obj (i:=1) rfl rfl,hMb⟩,hsb⟩ ⟨_,_,hH.get (i:=0) rfl rfl,At.mk hma hpb,At.mk hmb (List.prefix_refl _)⟩⟩ (by simp only;omega) sR
   ·have hke3:k3=x.mappings.length:=by omega
    subst hke3
    clear hKL hk3 h210
    refine jt (K63 (CJ.t [(0,_),(2,_)] (k:=sQ fun K70=>sQ fun K71=>jb (jM (k:=jN (k:=jF 4 jz xq (k:=jL zY hc0 4 (k:=jE xw (k:=jM (k:=K71 (jh ?_)))))))))))
    intro v4 hH4' hf4'
    refine vk (σ:=Nat×List ByteArray) (fun s=>[(0,ptr g.pb),(2,.map (some mb)),(235,.slice p4 x.locs.length c4),(236,.int .i64 (x.locs.length:Nat)),(237,.int .i64 (s.1:Nat))])
     (fun s w'=>s.1≤x.locs.length∧PS B w mb x g x.types.length x.samples.length x.mappings.length s.1 0 s.2 w') (fun s=>x.locs.length - s.1) (0,T3) sR ⟨Nat.zero_le _,hP3.keep hf4'⟩ ?_
    rintro ⟨k4,T4⟩ u4 ⟨hk4,hP4⟩ KL hKL
    try dsimp only at hk4 hP4
    have hc0:=mc (f:=⟨u4,0,[]⟩) (jk hP4.fr rfl _ _ hpb) rfl
    refine C.begin ⟨u4,0,[]⟩ [] jx .nil ?_
    try dsimp only
    refine sQ fun K72=>jb (jS (k:=K72 (sQ fun K73=>?_)))
    refine jq rfl (fun h238=>?_) (fun h238=>?_)
    ·have hk':k4<x.locs.length:=by omega
     obtain ⟨bq,rfl,hsq⟩:=hx4 ox
     have hkb:k4<g.locs.length:=by rw[hG.locs.1];exact hk'
     have hbe:g.locs[k4]? =some g.locs[k4]:=gE hkb
     have hxe:x.locs[k4]? =some x.locs[k4]:=gE hk'
     have hxm:x.locs[k4]∈x.locs:=List.getElem_mem hk'
     obtain ⟨ls,hst,hos,hrowB⟩:=(hP4.pl _ _ _ hbe hxe).2 (Nat.le_refl _)
     have hos':=hos
     obtain ⟨y0,pv,lv,cv,rfl,hO0,hy0⟩:=hos
     have hll:(x.locs[k4].lines.flatMap (qk g.funs)).length=x.locs[k4].lines.length*3:=qw (sz:=3) (fun _=>rfl) _
     obtain rfl:lv=x.locs[k4].lines.length:=by have:=hO0.sl.1;omega
     obtain ⟨cs1,hcs1⟩:∃cs1,y0.on=true→Blk u4 y0.b kq cs1∧LC (Qn x g) y0.cs cs1:=by
      by_cases hon:y0.on=true
      ·obtain ⟨cs1,h1,h2⟩:=hP4.lines _ _ (hy0 hon)
       exact ⟨cs1,fun _=>⟨h1,h2⟩⟩
      ·exact ⟨[],fun h=>absurd h hon⟩
     obtain ⟨qm,hqm⟩:∃qm,qe g.maps x.locs[k4].mapping=.pointer qm:=⟨_,rfl⟩
     have hLok:=hx.tab.locs _ hxm
     have hl60:x.locs[k4].lines.length≤60:=hLok.2.1
     rw[KB,hqm]at hst
     have hcell:=Kr (k:=k4) (v:=ptr g.locs[k4]) (W1:=[qH,kq]) hP4.fr rfl rfl hsq (by simp[hkb])
     refine CJ.turn (W:=[qH,kq]) (Hp.rowOff hst (fun h=>(hcs1 h).1) dq rfl rfl) ?_
     refine jg (K73 (sQ fun K74=>jh (sQ fun K75=>jb (jJ xw JW (k:=jL VO hcell 0 (k:=jA (k:=K75 (sQ fun K76=>sQ fun K77=>jb (jM (k:=jN (k:=?_)))))))))))
     refine jF 3 vc xW (k:=jH 0 zX (k:=jE xX (k:=jM (k:=K77 (jh ?_)))))
     refine jZ (σ:=Nat×List Value) (fun s=>[(0,ptr g.pb),(2,.map (some mb)),(26,ptr g.locs[k4]),(235,.slice (some ⟨bq,0,none⟩) x.locs.length c4),(236,.int .i64 (x.locs.length:Nat)),(237,.int .i64 (k4:Nat)),(244,.slice pv x.locs[k4].lines.length cv),(245,.int .i64 (x.locs[k4].lines.length:Nat)),(246,.int .i64 (s.1:Nat))])
      (fun s=>⟨g.locs[k4],qH,[.int .u64 x.locs[k4].id,.pointer qm,.int .u64 x.locs[k4].addr,.slice pv x.locs[k4].lines.length cv,.bool false,.int .u64 0],true,true,none⟩::⟨y0.b,kq,s.2,true,y0.on,none⟩::vh u4 (g.locs[k4]::XK y0.on y0.b))
      (fun s _=>s.1≤x.locs[k4].lines.length∧(y0.on=true→LC (Qn x g) y0.cs s.2∧LS (Qn x g) y0.cs cs1 s.2)∧∀(j:Nat) n,j<s.1→x.locs[k4].lines[j]? =some n→s.2[j*3+2]? =some (.int .u64 (fnid x n.fn))) (fun s=>x.locs[k4].lines.length - s.1)
      (0,cs1) sR (fun w' hH hf=>⟨hH,Nat.zero_le _,fun h=>⟨(hcs1 h).2,LS.refl⟩,fun j n hj=>by simp at hj⟩) ?_
     rintro ⟨i,csL⟩ wB ⟨hi,hLL,hdn⟩ hfB hHB KLQ hKLQ
     try dsimp only at hi hLL hdn
     refine C.begin _ _ hfB hHB ?_
     try dsimp only
     refine sQ fun K78=>jb (jS (k:=K78 (sQ fun K79=>?_)))
     refine jq rfl (fun h247=>?_) (fun h247=>?_)
     ·have hi':i<x.locs[k4].lines.length:=by omega
      obtain ⟨hon,hpv⟩:=hO0.pos ox
      subst hpv
      obtain ⟨hLc,hLs⟩:=hLL hon
      obtain ⟨ex,hex⟩:∃ex,y0.cs=x.locs[k4].lines.flatMap (qk g.funs)++ex:=by
       obtain ⟨-, -,q⟩:=hO0.sl
       rcases q with ⟨-, -,⟨ex,q⟩, -⟩|⟨q, -⟩
       ·exact ⟨ex,q⟩
       ·rw[hon]at q;cases q
      obtain ⟨z3,hz3⟩:=flat3 (hex▸hLc) hi'
      obtain ⟨qf,hqf⟩:∃qf,qe g.funs x.locs[k4].lines[i].fn=.pointer qf:=⟨_,rfl⟩
      rw[hqf]at hz3
      have hc0f:y0.cs[i*3]? =some (.pointer qf):=by
       rw[hex,aq ox,qcQ (gE hi'),hqf]
      have hlen3:i*3+2<csL.length:=by rw[hLc.1,hex,lA];omega
      have hfn:=hLok.2.2 _ (List.getElem_mem hi')
      have hfv:Qn x g (.pointer qf)=fnid x x.locs[k4].lines[i].fn:=by rw[← hqf];exact Zp hG.nfuns hG.funs.1 ox
      refine jg (K79 (sQ fun K80=>jh (sQ fun K81=>jb (jM (k:=jJ xX xE (k:=?_))))))
      refine jp rfl (fun a w ha hH hf=>vo (y:=⟨y0.b,kq,csL,true,y0.on,none⟩) (vs:=[.pointer qf,.int .i64 x.locs[k4].lines[i].line,.int .u64 z3]) 1 rfl hon Yo xE rfl hz3 rfl ha hH) (jW (zs:=[(.pointer none),(.int .i64 0),(.int .u64 0)]) QH rfl fun b28=>jA (k:=jB [_,_,_] (_::_::_::_) 0 xE (k:=K81 (sQ fun K82=>jb (jF 0 Jj zd (k:=jH 0 Kv (k:=?_)))))))
      refine jn rfl (fun _ _ h=>zJ qaa rfl h) (K82 ?_)
      refine qZ rfl (fun h253=>?_) (fun h253=>?_)
      ·have hfn0:0≤x.locs[k4].lines[i].fn:=by
        rcases Int.lt_or_le x.locs[k4].lines[i].fn 0 with h|h
        ·rw[Ja ox]at hqf
         cases hqf;cases h253
        ·exact h
       have hfl:x.locs[k4].lines[i].fn.toNat<x.funcs.length:=by omega
       have hfb:x.locs[k4].lines[i].fn.toNat<g.funs.length:=by rw[hG.funs.1];exact hfl
       have hqe:Value.pointer qf=ptr g.funs[x.locs[k4].lines[i].fn.toNat]:=by rw[← hqf];simp[qe,hfn0,hfb]
       obtain rfl:qf=some ⟨g.funs[x.locs[k4].lines[i].fn.toNat],0,none⟩:=by injection hqe
       have hfblk:Blk u4 _ xi _:=(hP4.pf _ _ _ (gE hfb) (gE hfl)).2 (Nat.zero_le _)
       have hfc:=mc (f:=⟨u4,0,[qH,kq]⟩) hfblk rfl
       have hid:x.funcs[x.locs[k4].lines[i].fn.toNat].id=fnid x x.locs[k4].lines[i].fn:=by simp[fnid,VB,hfn0,hfl,List.getD_eq_getElem?_getD]
       have hfinal:(csL.set (0+i*3+2) (.int .u64 x.funcs[x.locs[k4].lines[i].fn.toNat].id))=csL.set (i*3+2) (.int .u64 (fnid x x.locs[k4].lines[i].fn)):=by rw[Nat.zero_add,hid]
       refine jC 10 (lts [0,1,2,3,4,5,6,7,8,9]++(10,false)::(11,false)::(12,false)::[]) [0,1] rfl (by kernel_rfl) (by kernel_rfl) (dM [0,1] (k:=dN [0,1] (k:=dF [0,1] 3 vc xW (k:=dH [0,1] 1 zX (k:=dM [0,1] (k:=dF [0,1] 0 Jj zd (k:=dH [0,1] 0 Kv (k:=dN [0,1] (k:=dF [0,1] 0 xc kU (k:=dL [0,1] vy hfc 0 (k:=dE (h:=fun Kd=>jJ xX xE (k:=Kd (.inl rfl) ?_)))))))))))))
       refine dE (h:=fun Kd=>jF 2 Jj kU (k:=Kd (.inl rfl) (dE (h:=fun Kd=>?_))))
       refine vj (y:=⟨y0.b,kq,csL,true,y0.on,none⟩) (o:=0+i*3+2) 2 rfl hon rfl rfl kU rfl rfl rfl rfl (Nat.ble_eq_true_of_le (show 0+i*3+2+1≤csL.length by omega)) ?_
       refine Kd (.inl rfl) (K80 (CJ.t [(0,_),(2,_),(26,_),(235,_),(236,_),(237,_),(244,_),(245,_),(246,_)] (k:=jb (jI (k:=jM (k:=jw (ji ?_)))))))
       have hset:∀(j:Nat) n,j<i+1→x.locs[k4].lines[j]? =some n→(csL.set (i*3+2) (.int .u64 (fnid x x.locs[k4].lines[i].fn)))[j*3+2]? =some (.int .u64 (fnid x n.fn)):=fun j n hj hn=>by
        by_cases hji:j=i
        ·subst hji
         rw[gE hi']at hn
         cases hn
         rw[List.getElem?_set_self hlen3]
        ·rw[List.getElem?_set_ne ox]
         exact hdn j n ox hn
       have hLc2:=hLc.set hc0f (by rw[← hLc.1];exact hlen3)
       have hLs2:=hLs.set hc0f hlen3
       rw[hfv]at hLc2 hLs2
       exact fun w' hH hf=>hKLQ (i+1,csL.set (i*3+2) (.int .u64 (fnid x x.locs[k4].lines[i].fn))) _ w' ⟨hi',fun _=>⟨hLc2,hLs2⟩,hset⟩ hf (by have h:Hp _ w' (⟨g.locs[k4],qH,[.int .u64 x.locs[k4].id,.pointer qm,.int .u64 x.locs[k4].addr,.slice (some ⟨y0.b,0,none⟩) x.locs[k4].lines.length cv,.bool false,.int .u64 0],true,true,none⟩::⟨y0.b,kq,csL.set (0+i*3+2) _,true,y0.on,none⟩::vh u4 (g.locs[k4]::XK y0.on y0.b)):=hH.drop 0;rw[hfinal]at h;exact h) (by simp only;omega) sR
      ·have hid:(0:Int)=Qn x g (.pointer qf):=by
        cases qf with
        |none=>rfl
        |some a=>cases h253
       have hfinal:(csL.set (0+i*3+2) (.int .u64 0))=csL.set (i*3+2) (.int .u64 (fnid x x.locs[k4].lines[i].fn)):=by rw[Nat.zero_add,hid,hfv]
       refine jb (jM (k:=jN (k:=jF 3 vc xW (k:=jH 1 zX (k:=jM (k:=jJ xX xE (k:=jF 2 Jj kU (k:=?_))))))))
       refine vj (y:=⟨y0.b,kq,csL,true,y0.on,none⟩) (o:=0+i*3+2) 2 rfl hon rfl rfl kU rfl rfl rfl rfl (Nat.ble_eq_true_of_le (show 0+i*3+2+1≤csL.length by omega)) ?_
       refine K80 (jb (jI (k:=jM (k:=jw (ji ?_)))))
       have hset:∀(j:Nat) n,j<i+1→x.locs[k4].lines[j]? =some n→(csL.set (i*3+2) (.int .u64 (fnid x x.locs[k4].lines[i].fn)))[j*3+2]? =some (.int .u64 (fnid x n.fn)):=fun j n hj hn=>by
        by_cases hji:j=i
        ·subst hji
         rw[gE hi']at hn
         cases hn
         rw[List.getElem?_set_self hlen3]
        ·rw[List.getElem?_set_ne ox]
         exact hdn j n ox hn
       have hLc2:=hLc.set hc0f (by rw[← hLc.1];exact hlen3)
       have hLs2:=hLs.set hc0f hlen3
       rw[hfv]at hLc2 hLs2
       exact fun w' hH hf=>hKLQ (i+1,csL.set (i*3+2) (.int .u64 (fnid x x.locs[k4].lines[i].fn))) _ w' ⟨hi',fun _=>⟨hLc2,hLs2⟩,hset⟩ hf (by have h:Hp _ w' (⟨g.locs[k4],qH,[.int .u64 x.locs[k4].id,.pointer qm,.int .u64 x.locs[k4].addr,.slice (some ⟨y0.b,0,none⟩) x.locs[k4].lines.length cv,.bool false,.int .u64 0],true,true,none⟩::⟨y0.b,kq,csL.set (0+i*3+2) _,true,y0.on,none⟩::vh u4 (g.locs[k4]::XK y0.on y0.b)):=hH.drop 0;rw[hfinal]at h;exact h) (by simp only;omega) sR
     ·have hie:i=x.locs[k4].lines.length:=by omega
      have hmp0:=hLok.1
      refine jt (K76 (CJ.t [(0,_),(2,_),(26,_),(235,_),(236,_),(237,_)] (k:=sQ fun K83=>jb (jM (k:=jN (k:=jF 1 vc zT (k:=jH 0 Qw (k:=?_))))))))
      refine jn rfl (fun _ _ h=>zJ qbK rfl h) (K83 ?_)
      refine qZ rfl (fun h278=>?_) (fun h278=>?_)
      ·have hm0:0≤x.locs[k4].mapping:=by
        rcases Int.lt_or_le x.locs[k4].mapping 0 with h|h
        ·rw[Ja ox]at hqm
         cases hqm;cases h278
        ·exact h
       have hml:x.locs[k4].mapping.toNat<x.mappings.length:=by omega
       have hmbk:x.locs[k4].mapping.toNat<g.maps.length:=by rw[hG.maps.1];exact hml
       have hqe:Value.pointer qm=ptr g.maps[x.locs[k4].mapping.toNat]:=by rw[← hqm];simp[qe,hm0,hmbk]
       obtain rfl:qm=some ⟨g.maps[x.locs[k4].mapping.toNat],0,none⟩:=by injection hqe
       obtain ⟨mn,mk,hmblk, -, -⟩:=(hP4.pm _ _ _ (gE hmbk) (gE hml)).1 hml
       have hmc:=mc (f:=⟨u4,0,[qH,kq]⟩) hmblk rfl
       have hmid:x.mappings[x.locs[k4].mapping.toNat].id=mid x x.locs[k4].mapping:=by simp[mid,VB,hm0,hml,List.getD_eq_getElem?_getD]
       refine jb (jM (k:=jM (k:=jN (k:=jF 1 vc zT (k:=jH 0 Qw (k:=jN (k:=jF 0 vg kU (k:=jL vy hmc 0 (k:=jN (k:=jF 5 vc kU (k:=jB [_,_,_,_,_,_] (_::_::_) 0 kU (k:=K74 (CJ.t [(0,_),(2,_),(235,_),(236,_),(237,_)] (k:=?_))))))))))))))
       refine jb (jI (k:=jM (k:=jw (ji ?_))))
       exact fun w' hH hf=>by
        have hkx:=Hp.keepX (l:=g.locs[k4]::XK y0.on y0.b) hH.2.2.2.2.2.2 hf
        have hrs:=qca hP4.lines hst hkx hy0 (fun h=>(hcs1 h).1) (csF:=csL) (fun h=>⟨hH.get (i:=1) rfl h,hLL h⟩)
        have hbF:=hH.get (i:=0) rfl rfl
        simp only[hmid]at hbF
        refine hKL (k4+1,T4) _ w' ⟨hk',hP4.s4 (fun c hc=>?_) hG.nlocs hbe hxe hst hkx (fun c hc=>?_) ?_ hrs.1 hrs.2 ⟨_,by rw[hqm];exact hbF,hos',?_⟩⟩ (by simp only;omega) sR
        ·rcases mC hc with rfl|hc
         ·exact hG.fresh.2.2.2.2.2.1 _ (List.getElem_mem hkb)
         ·unfold XK at hc
          split at hc
          ·rename_i hon
           simp at hc
           subst hc
           rcases hO0.sl.2.2 with ⟨-,q, -⟩|⟨q, -⟩
           ·exact hrowB y0.b _ cv (by rw[q])
           ·rw[hon]at q;cases q
          ·cases hc
        ·rcases mC hc with hc|hc
         ·exact .inl hc
         ·unfold XK at hc
          split at hc
          ·rename_i hon
           simp at hc
           subst hc
           exact .inr ⟨_,(hcs1 hon).1⟩
          ·cases hc
        ·exact fun l hl n hn=>Zp hG.nfuns hG.funs.1 (by have:=(hx.tab.locs _ hl).2.2 _ hn;omega)
        ·intro p l c rb e1 e2 j n hn
         cases e1
         have hlt:=(List.getElem?_eq_some_iff.1 hn).1
         obtain ⟨hon,hpv⟩:=hO0.pos ox
         rw[e2]at hpv
         cases hpv
         have hbl:=hH.get (i:=1) rfl hon
         rw[hbl.cell]
         exact hdn j n ox hn
      ·have hmid:(0:Int)=mid x x.locs[k4].mapping:=by
        cases qm with
        |none=>
         have:¬0≤x.locs[k4].mapping:=fun h=>by
           rw[qe,if_pos h,gE (by rw[hG.maps.1];omega)]at hqm
           cases hqm
         simp[mid,VB,this]
        |some a=>cases h278
       refine jb (jM (k:=jN (k:=jF 5 vc kU (k:=jB [_,_,_,_,_,_] (_::_::_) 0 kU (k:=K74 (jb (jI (k:=jM (k:=jw (ji ?_))))))))))
       exact fun w' hH hf=>by
        have hkx:=Hp.keepX (l:=g.locs[k4]::XK y0.on y0.b) hH.2.2.2.2.2.2 hf
        have hrs:=qca hP4.lines hst hkx hy0 (fun h=>(hcs1 h).1) (csF:=csL) (fun h=>⟨hH.get (i:=1) rfl h,hLL h⟩)
        have hbF:=hH.get (i:=0) rfl rfl
        simp only[hmid]at hbF
        refine hKL (k4+1,T4) _ w' ⟨hk',hP4.s4 (fun c hc=>?_) hG.nlocs hbe hxe hst hkx (fun c hc=>?_) ?_ hrs.1 hrs.2 ⟨_,by rw[hqm];exact hbF,hos',?_⟩⟩ (by simp only;omega) sR
        ·rcases mC hc with rfl|hc
         ·exact hG.fresh.2.2.2.2.2.1 _ (List.getElem_mem hkb)
         ·unfold XK at hc
          split at hc
          ·rename_i hon
           simp at hc
           subst hc
           rcases hO0.sl.2.2 with ⟨-,q, -⟩|⟨q, -⟩
           ·exact hrowB y0.b _ cv (by rw[q])
           ·rw[hon]at q;cases q
          ·cases hc
        ·rcases mC hc with hc|hc
         ·exact .inl hc
         ·unfold XK at hc
          split at hc
          ·rename_i hon
           simp at hc
           subst hc
           exact .inr ⟨_,(hcs1 hon).1⟩
          ·cases hc
        ·exact fun l hl n hn=>Zp hG.nfuns hG.funs.1 (by have:=(hx.tab.locs _ hl).2.2 _ hn;omega)
        ·intro p l c rb e1 e2 j n hn
         cases e1
         have hlt:=(List.getElem?_eq_some_iff.1 hn).1
         obtain ⟨hon,hpv⟩:=hO0.pos ox
         rw[e2]at hpv
         cases hpv
         have hbl:=hH.get (i:=1) rfl hon
         rw[hbl.cell]
         exact hdn j n ox hn
    ·have hke4:k4=x.locs.length:=by omega
     subst hke4
     clear hKL hk4 h238
     refine jt (K70 (sQ fun K84=>sQ fun K85=>jb (jM (k:=jN (k:=jF 5 jz zw (k:=jL Kw hc0 5 (k:=jE ze (k:=jM (k:=K85 (CJ.t [(0,_),(2,_),(296,_),(297,_),(298,_)] (k:=jh ?_)))))))))))
     intro v5 hH5' hf5'
     refine vk (σ:=Nat×List ByteArray) (fun s=>[(0,ptr g.pb),(2,.map (some mb)),(296,.slice p5 x.funcs.length c5),(297,.int .i64 (x.funcs.length:Nat)),(298,.int .i64 (s.1:Nat))])
      (fun s w'=>s.1≤x.funcs.length∧PS B w mb x g x.types.length x.samples.length x.mappings.length x.locs.length s.1 s.2 w') (fun s=>x.funcs.length - s.1) (0,T4) sR ⟨Nat.zero_le _,hP4.keep hf5'⟩ ?_
     rintro ⟨k5,T5⟩ u5 ⟨hk5,hP5⟩ KL hKL
     try dsimp only at hk5 hP5
     have hc0:=mc (f:=⟨u5,0,[]⟩) (jk hP5.fr rfl _ _ hpb) rfl
     refine C.begin ⟨u5,0,[]⟩ [] jx .nil ?_
     try dsimp only
     refine sQ fun K86=>jb (jS (k:=K86 (sQ fun K87=>?_)))
     refine jq rfl (fun h299=>?_) (fun h299=>?_)
     ·have hk':k5<x.funcs.length:=by omega
      obtain ⟨bq,rfl,hsq⟩:=hx5 ox
      have hkb:k5<g.funs.length:=by rw[hG.funs.1];exact hk'
      have hbe:g.funs[k5]? =some g.funs[k5]:=gE hkb
      have hxe:x.funcs[k5]? =some x.funcs[k5]:=gE hk'
      have hxm:x.funcs[k5]∈x.funcs:=List.getElem_mem hk'
      have hst:Blk u5 g.funs[k5] xi _:=(hP5.pf _ _ _ hbe hxe).2 (Nat.le_refl _)
      obtain ⟨es,ck,hmap,hM⟩:=hP5.tab.ex
      have hcell:=Kr (k:=k5) (v:=ptr g.funs[k5]) (W1:=[xi,1000000]) hP5.fr rfl rfl hsq (by simp[hkb])
      refine CJ.turn (W:=[xi,1000000]) (Hp.rowMap hst hmap rfl rfl) ?_
      refine jg (K87 (sQ fun K88=>jh (sQ fun K89=>jb (jJ ze zd (k:=jL Kv hcell 0 (k:=jA (k:=K89 (sQ fun K90=>jb (jM (k:=jM (k:=jM (k:=?_))))))))))))
      refine jN (k:=jF 1 xc so9 (k:=jH 0 ag9 (k:=?_)))
      refine yH 1 rfl hM hP5.tab.sub (qdQ hxm zp) hS2 rfl rfl fun T5a m5a esa cka hma hpa hsa hMa=>?_
      refine jN (k:=jF 5 xc so2 (k:=jB [_,_,_,_,_,_,_,_] (_::_::_) 0 so2 (k:=K90 (CJ.t [(0,_),(2,_),(30,_),(296,_),(297,_),(298,_)] (k:=sQ fun K91=>jb (jM (k:=jM (k:=jM (k:=jN (k:=jF 2 xc so9 (k:=jH 0 ag9 (k:=?_))))))))))))
      refine yH 1 rfl hMa hsa (qdQ hxm zp) hS2 rfl rfl fun T5b m5b esb ckb hmb hpb hsb hMb=>?_
      refine jN (k:=jF 6 xc so2 (k:=jB [_,_,_,_,_,_,_,_] (_::_::_) 0 so2 (k:=K91 (jb (jM (k:=jM (k:=jM (k:=jN (k:=jF 3 xc so9 (k:=jH 0 ag9 (k:=?_)))))))))))
      refine yH 1 rfl hMb hsb (qdQ hxm zp) hS2 rfl rfl fun T5c m5c esc ckc hmc hpc hsc hMc=>?_
      refine jN (k:=jF 7 xc so2 (k:=jB [_,_,_,_,_,_,_,_] (_::_::_) 0 so2 (k:=K88 (CJ.t [(0,_),(2,_),(296,_),(297,_),(298,_)] (k:=jb (jI (k:=jM (k:=jw (ji ?_)))))))))
      exact fun w' hH hf=>hKL (k5+1,T5c) _ w' ⟨hk',hP5.s5 hmbF (hG.fresh.2.2.2.2.1 _ (List.getElem_mem hkb)) hG.nfuns hbe hxe hst (Hp.keepX (l:=[g.funs[k5],mb]) hH.2.2.2.2.2.2 hf) ((hpa.trans hpb).trans hpc) ⟨⟨_,_,hH.obj (i:=1) rfl rfl,hMc⟩,hsc⟩ ⟨_,_,_,hH.get (i:=0) rfl rfl,At.mk hma (hpb.trans hpc),At.mk hmb hpc,At.mk hmc (List.prefix_refl _)⟩⟩ (by simp only;omega) sR
     ·have hke5:k5=x.funcs.length:=by omega
      subst hke5
      clear hKL hk5 h299
      obtain ⟨es,ck,hmap,hM⟩:=hP5.tab.ex
      have hT0:=hP5.tab.sub
      have hpb5:=jk hP5.fr rfl _ _ hpb
      unfold zz at hpb5
      refine CJ.turn (W:=[ju,tVT,1000000]) (Hp.rowRowMap hpb5 hP5.per dq hmap rfl rfl rfl) ?_
      refine jt (K84 (sQ fun K92=>jb (jM (k:=jM (k:=jM (k:=jN (k:=jF 7 jz so9 (k:=jH 0 ag9 (k:=?_)))))))))
      refine yH 2 rfl hM hT0 (by simp[yz]) hS2 rfl rfl fun Ta na esa cka qma hpa hta hMa=>?_
      refine jN (k:=jF 14 jz so2 (k:=jB [_,_,_,_,_,_,_,_,_,_,_,_,_,_,_,_,_,_] (_::_::_::_) 0 so2 (k:=K92 (CJ.t [(0,_),(2,_)] (k:=sQ fun K93=>jb (jM (k:=jM (k:=jM (k:=jN (k:=jF 8 jz so9 (k:=jH 0 ag9 (k:=?_))))))))))))
      refine yH 2 rfl hMa hta (by simp[yz]) hS2 rfl rfl fun Tb nb esb ckb qmb hpb' htb hMb=>?_
      refine jN (k:=jF 15 jz so2 (k:=jB [_,_,_,_,_,_,_,_,_,_,_,_,_,_,_,_,_,_] (_::_::_::_) 0 so2 (k:=K93 (sQ fun K94=>sQ fun K95=>jb (jM (k:=jN (k:=jF 11 jz yO (k:=jH 0 Jp (k:=jA (k:=K95 (CJ.t [(0,_),(2,_),(31,_)] (k:=?_))))))))))))
      refine sQ fun K96=>jb (jM (k:=?_))
      refine jn rfl (fun _ _ h=>zJ YO rfl h) ?_
      refine jV (u:=.bool true) rfl ?_
      refine K96 (ql rfl (sQ fun K97=>jb (jM (k:=jM (k:=jM (k:=jN (k:=jF 0 xF so9 (k:=jH 1 ag9 (k:=?_)))))))))
      refine yH 2 rfl hMb htb (by simp[yz]) hS2 rfl rfl fun Tc nc esc ckc qmc hpc htc hMc=>?_
      refine jN (k:=jF 2 xF so2 (k:=jB [_,_,_,_] (_::_::_::_) 1 so2 (k:=K97 (CJ.t [(0,_),(2,_),(31,_)] (k:=jb (jM (k:=jM (k:=jM (k:=jN (k:=jF 1 xF so9 (k:=jH 1 ag9 (k:=?_))))))))))))
      refine yH 2 rfl hMc htc (by simp[yz]) hS2 rfl rfl fun Td nd esd ckd qmd hpd htd hMd=>?_
      refine jN (k:=jF 3 xF so2 (k:=jB [_,_,_,_] (_::_::_::_) 1 so2 (k:=K94 (sQ fun K98=>jb (jM (k:=jM (k:=?_)))))))
      have hnd:Td.Nodup:=by have h:=hMd.keys;rwa [qab]at h
      have htdl:Td.length≤100000000:=Nat.le_trans (VT hnd htd) hS
      have hedl:esd.length=Td.length:=by have:=hMd.length;simpa[Js]using this
      refine jp rfl (fun a w ha hH hf=>qgO 2 rfl qbX rfl ha hH) ?_
      refine qlD (l:=esd.length) vG el9 rfl rfl rfl (Nat.le_refl _) ox rfl fun bR csR hcsR _=>?_
      refine jN (k:=jF 16 jz xH (k:=jB [_,_,_,_,_,_,_,_,_,_,_,_,_,_,_,_,_,_] (_::_::_::_::_) 1 xH (k:=K98 (CJ.t [(0,_),(2,_)] (k:=sQ fun K99=>jb (jM (k:=?_)))))))
      refine qjx 3 rfl qbX rfl rfl fun it3=>?_
      refine K99 (jh ?_)
      refine jZ (σ:=List Nat×List MapEntry×List Value) (fun s=>[(0,ptr g.pb),(379,ptr it3)])
       (fun s=>itE it3 mb ckd s.1 ckd::⟨bR,qc,s.2.2,true,true,none⟩::⟨g.pb,ju,[.slice p1 x.types.length c1,.string x.deflt,.slice p2 x.samples.length c2,.slice p3 x.mappings.length c3,.slice p4 x.locs.length c4,.slice p5 x.funcs.length c5,cov,.string x.drop,.string x.keep,.int .i64 x.time,.int .i64 x.dur,ptr g.per,.int .i64 x.period,.slice none 0 0,.int .i64 (na:Nat),.int .i64 (nb:Nat),.slice (some ⟨bR,0,none⟩) esd.length esd.length,.int .i64 0],true,true,none⟩::⟨g.per,tVT,[.string x.per.ty,.string x.per.unit,.int .i64 (nc:Nat),.int .i64 (nd:Nat)],true,true,none⟩::mpE mb esd ckd::vh u5 [g.pb,g.per,mb])
       (fun s _=>Vis esd s.2.1 s.1∧s.2.2.length=esd.length∧∀xe∈s.2.1,∀(t:ByteArray) (i:Nat),xe.key=.string t→xe.val=.int .i64 (i:Nat)→s.2.2[i]? =some (.string t)) (fun s=>esd.length - s.1.length)
       ([],[],csR) ⟨rfl,rfl,trivial⟩ (fun w' hH hf=>⟨hH,Vis.nil,by simp only;omega,by simp⟩) ?_
      rintro ⟨seen,xs,cs⟩ wZ ⟨hV,hcl,hcv⟩ hfZ hHZ KLZ hKLZ
      try dsimp only at hV hcl hcv
      refine C.begin _ _ hfZ hHZ ?_
      try dsimp only
      refine sQ fun K100=>jb ?_
      refine qlC 0 4 rfl rfl hMd.lt (Nat.le_refl _) rfl rfl (fun hall=>?_) (fun xe hxe hns=>?_)
      ·refine jX (k:=K100 (sQ fun K101=>?_))
       refine jO rfl (jt (qg (qg (xy (vK results86 fun w' hH hf=>?_)))))
       have hcs:cs=Td.map .string:=by
        apply List.ext_getElem?
        intro i
        by_cases hi:i<Td.length
        ·have hm:(Td[i],Value.int .i64 (i:Nat))∈Js Td:=List.mem_map.2 ⟨(Td[i],i),(List.mem_zipIdx_iff_getElem?).2 (gE hi),rfl⟩
         have h1:(Value.string Td[i],Value.int .i64 (i:Nat))∈(Js Td).map fun p=>(Value.string p.1,p.2):=List.mem_map.2 ⟨_,hm,rfl⟩
         rw[← hMd.kv]at h1
         obtain ⟨xe,hxe,he⟩:=List.mem_map.1 h1
         injection he with e1 e2
         rw[hcv xe (hV.all hMd.born hall xe hxe) _ i e1 e2]
         simp[hi]
        ·rw[List.getElem?_eq_none ox,List.getElem?_eq_none (by simp;omega)]
       have hkx:=Hp.keepX (l:=[g.pb,g.per,mb]) hH.2.2.2.2.2.2.2.2.2.2.2.2.2.2.2 hf
       have hpre:=((hpa.trans hpb').trans hpc).trans hpd
       obtain ⟨f1,f2,f3,f4,f5,f6,f7⟩:=hP5.fin hG hpb5 hmbF hkx hpre
       have hOR:Own qc 1 ⟨bR,qc,cs,true,true,none⟩ (some ⟨bR,0,none⟩) esd.length esd.length (Td.map .string):=⟨rfl,rfl,rfl,by simp[hedl],Nat.le_refl _,.inl ⟨rfl,rfl,⟨[],by simp[hcs]⟩,by simp[hcl]⟩⟩
       exact ⟨Td,zt hpre hP5.zero,htd,hnd,f1,⟨_,_,_,_,_,_,_,_,_,hH.get (i:=2) rfl rfl,hty,hsa,hma,hlo,hfu,hOR.os hH (i:=1) rfl,At.mk qma ((hpb'.trans hpc).trans hpd),At.mk qmb (hpc.trans hpd)⟩,⟨_,_,hH.get (i:=3) rfl rfl,At.mk qmc hpd,At.mk qmd (List.prefix_refl _)⟩,f2,f3,f4,f5,f6,f7⟩
      ·refine jX (k:=K100 (sQ fun K102=>?_))
       refine ql rfl (jg (K102 (jh (sQ fun K103=>jb (jp rfl (fun a w ha hH hf=>qiJ 0 4 rfl rfl rfl hxe hMd.born ha hH) (jX (k:=?_)))))))
       obtain ⟨⟨qs,qv⟩,hq,hqk,hqv⟩:=Jc hMd hxe
       obtain ⟨qi,rfl,hqi⟩:=YR hq
       have hqlt:=(List.getElem?_eq_some_iff.1 hqi).1
       refine jV hqk ?_
       refine jX (k:=?_)
       refine jV hqv ?_
       refine jA (k:=jA (k:=K103 (jb (jM (k:=jN (k:=jF 16 jz xH (k:=jH 2 yv (k:=jM (k:=jM (k:=jJ vG so9 (k:=?_)))))))))))
       refine vj (o:=0+qi*1) 1 rfl rfl rfl rfl so9 rfl rfl rfl rfl (Nat.ble_eq_true_of_le (show 0+qi*1+1≤cs.length by omega)) ?_
       refine jw (Qq (ji ?_))
       have hlt:seen.length<esd.length:=by
        have:=(hV.push hxe hns).len hMd.born
        simp at this;omega
       exact fun w' hH hf=>hKLZ (seen++[xe.born],xs++[xe],cs.set qi (.string qs)) _ w' ⟨hV.push hxe hns,by simp[hcl],fun xe' hxe' t i hk hv=>by
        have hcol:∀{t':ByteArray} {i':Nat},xe'.key=.string t'→xe'.val=.int .i64 (i':Nat)→xe'∈esd→i'=qi→t'=qs:=fun {t' i'} hk hv hm e=>by
         obtain ⟨⟨ps,pv⟩,hp,hpk,hpv⟩:=Jc hMd hm
         obtain ⟨pi,rfl,hpi⟩:=YR hp
         rw[hk]at hpk
         rw[hv]at hpv
         cases hpk
         have e2:i'=pi:=by simp at hpv;omega
         subst e2;subst e
         rw[hqi]at hpi
         exact (Option.some.inj hpi).symm
        rcases mA hxe' with hm|hm
        ·by_cases hi:qi=i
         ·rw[hcol hk hv (hV.sub _ hm) hi.symm, ← hi,List.getElem?_set_self ox]
         ·rw[List.getElem?_set_ne hi];exact hcv _ hm _ _ hk hv
        ·simp at hm
         subst hm
         rw[hqv]at hv
         have e2:qi=i:=by simp at hv;omega
         rw[hcol hk (by rw[hqv,e2]) hxe e2.symm, ← e2,List.getElem?_set_self ox]⟩ hf (by have h:=hH;rw[Nat.zero_add,Nat.mul_one]at h;exact h) (by simp only[lA,List.length_singleton];omega) ⟨rfl,rfl,trivial⟩
theorem qN (h:IntKind.u64.wrap z=z):0≤z∧z<18446744073709551616:=by
 simp[IntKind.wrap,IntKind.bits,IntKind.signed]at h;omega
structure Rng (x:jD):Prop where
 time:IntKind.i64.wrap x.time=x.time
 dur:IntKind.i64.wrap x.dur=x.dur
 period:IntKind.i64.wrap x.period=x.period
 vals:∀s∈x.samples,∀z∈s.values,IntKind.i64.wrap z=z
 nums:∀s∈x.samples,∀t∈s.nums,∀z∈t.list,IntKind.i64.wrap z=z
 maps:∀m∈x.mappings,IntKind.u64.wrap m.id=m.id∧IntKind.u64.wrap m.start=m.start∧IntKind.u64.wrap m.limit=m.limit∧IntKind.u64.wrap m.offset=m.offset
 locs:∀l∈x.locs,IntKind.u64.wrap l.id=l.id∧IntKind.u64.wrap l.addr=l.addr∧∀n∈l.lines,IntKind.i64.wrap n.line=n.line
 funs:∀f∈x.funcs,IntKind.u64.wrap f.id=f.id∧IntKind.i64.wrap f.start=f.start
theorem qI.rng {x:jD} (h:qI w cs x):Rng x:=by
 obtain ⟨a,s,m,l,f,cm, -,ha,hs,hm,hl,hf, -,h1,h2,h3⟩:=h
 refine ⟨h1,h2,h3,hs.each fun c y hR=>?_,hs.each fun c y hR=>?_,hm.each fun c y hR=>hR.2,hl.each fun c y hR=>?_,hf.each fun c y hR=>hR.2⟩
 ·obtain ⟨_,_,_,_, -, -,h, -, -⟩:=hR
  exact h.each fun _ _ h=>h.2
 ·obtain ⟨_,_,_,_, -, -, -, -,h⟩:=hR
  refine h.each fun c t hR=>?_
  obtain ⟨_, -,h⟩:=hR
  exact h.each fun _ _ h=>h.2
 ·obtain ⟨_, -,h1, -,h2,h⟩:=hR
  exact ⟨h1,h2,h.each fun _ _ h=>h.2.2⟩
theorem VY (h:∀i∈ids,IntKind.u64.wrap i=i):0≤VB ids z∧VB ids z<18446744073709551616:=by
 unfold VB
 split
 ·rw[List.getD_eq_getElem?_getD]
  cases hg:ids[z.toNat]? with
  |none=>simp
  |some i=>exact qN (h i (mG hg))
 ·omega
theorem Rng.mid {x:jD} (h:Rng x) (z:Int):0≤mid x z∧mid x z<18446744073709551616:=VY fun i hi=>by
 obtain ⟨m,hm,rfl⟩:=List.mem_map.1 hi
 exact (h.maps m hm).1
theorem Rng.fnid {x:jD} (h:Rng x) (z:Int):0≤fnid x z∧fnid x z<18446744073709551616:=VY fun i hi=>by
 obtain ⟨m,hm,rfl⟩:=List.mem_map.1 hi
 exact (h.funs m hm).1
theorem Rng.lid {x:jD} (h:Rng x) (z:Int):0≤lid x z∧lid x z<18446744073709551616:=VY fun i hi=>by
 obtain ⟨m,hm,rfl⟩:=List.mem_map.1 hi
 exact (h.locs m hm).1
theorem At.wrap {T:List ByteArray} {n:Int} {s:ByteArray} (h:At T n s) (hl:T.length≤100000000):IntKind.i64.wrap n=n:=by
 obtain ⟨k,rfl,hk⟩:=h
 have:=(List.getElem?_eq_some_iff.1 hk).1
 exact kG ox ox
def MT (T:List ByteArray) (t:xn) (M:List Nat):Prop:=∃n m,M=vtB n m∧At T n t.ty∧At T m t.unit
def MM (T:List ByteArray) (m:qK) (M:List Nat):Prop:=∃n k,M=mpB m.id.toNat m.start.toNat m.limit.toNat m.offset.toNat n k m.fu m.fi m.li m.inl∧At T n m.file∧At T k m.build
def MF (T:List ByteArray) (f:yl) (M:List Nat):Prop:=∃n k i,M=fnB f.id.toNat n k i f.start∧At T n f.name∧At T k f.system∧At T i f.file
def ML (x:jD) (l:vP) (M:List Nat):Prop:=M=ki 1 l.id.toNat++(ki 2 (mid x l.mapping).toNat++(ki 3 l.addr.toNat++msB 4 (l.lines.map fun n=>lnB (fnid x n.fn).toNat n.line)))
def MS (T:List ByteArray) (x:jD) (s:ku) (M:List Nat):Prop:=∃lbs,LbR T lbs (QE s)∧M=smB (s.stack.map fun z=>(lid x z).toNat) s.values lbs
def QG {α β:Type} (xs:List α) (ys:List β) (R:α→β→Prop):Prop:=ys.length=xs.length∧∀(i:Nat) a b,xs[i]? =some a→ys[i]? =some b→R a b
theorem qE.pick {α β:Type}:∀{bs:List Nat} {xs:List α} {φ:Nat→α→Prop} {R:Nat→α→β→Prop},qE bs xs φ→(∀b x,x∈xs→φ b x→∃M,R b x M)→∃Ms:List β,Ms.length=xs.length∧∀(i:Nat) b x M,bs[i]? =some b→xs[i]? =some x→Ms[i]? =some M→R b x M
 |[],[],_,_,_,_=>⟨[],rfl,by simp⟩
 |[],_::_,_,_,h,_=>by have:=h.1;simp at this
 |_::_,[],_,_,h,_=>by have:=h.1;simp at this
 |b::bs,x::xs,φ,R,h,hp=>by
    obtain ⟨Ms,h1,h2⟩:=qE.pick (bs:=bs) (xs:=xs) (φ:=φ) (R:=R) ⟨by have:=h.1;simpa using this,fun i b' x' hb hx=>h.2 (i+1) b' x' (by simpa using hb) (by simpa using hx)⟩ fun b' x' hx=>hp b' x' (by simp[hx])
    obtain ⟨M,hM⟩:=hp b x zp (h.2 0 b x rfl rfl)
    refine ⟨M::Ms,by simp[h1],fun i b' x' M' hb hx hm=>?_⟩
    cases i with
    |zero=>simp at hb hx hm;subst hb;subst hx;subst hm;exact hM
    |succ i=>exact h2 i b' x' M' (by simpa using hb) (by simpa using hx) (by simpa using hm)
structure PR (x:jD) (T:List ByteArray) (q:PIn):Prop where
 ts:QG x.types q.ts (MT T)
 ss:QG x.samples q.ss (MS T x)
 ms:QG x.mappings q.ms (MM T)
 ls:QG x.locs q.ls (ML x)
 fs:QG x.funcs q.fs (MF T)
 tab:q.tab=T
 zero:T[0]? =some eB
 sub:∀s∈T,s∈yz x
 nd:T.Nodup
 dx:At T q.dx x.drop
 kx:At T q.kx x.keep
 ti:q.ti=x.time
 du:q.du=x.dur
 pe:q.pe=x.period
 tx:At T q.tx x.per.ty
 ux:At T q.ux x.per.unit
theorem Zr {tag:Nat} {M:List Nat} (ht:tag<1048576) (hM:M.length≤100000000000):(xO (.bys tag M)).length≤M.length+11:=by
 have h2:=Qj (len:=M.length) ht hM
 have:(xO (.bys tag M)).length=(qr M.length tag).length+M.length:=by simp[xO,qr];omega
 omega
theorem Qh {tag:Nat} (ht:tag<1048576) (hc:c≤100000000) {Ms:List (List Nat)} (h:∀M∈Ms,M.length≤c):(msB tag Ms).length≤(c+11)*Ms.length:=xV fun M hM=>by
 have:=Zr (M:=M) ht (by have:=h M hM;omega)
 have:=h M hM
 omega
def xt (l:List ByteArray):Nat:=(l.map fun s=>s.size+1).sum
theorem qdk {l:List ByteArray}:∀{s:ByteArray},s∈l→∃l',(∀t,t∈l→t≠s→t∈l')∧xt l'+(s.size+1)≤xt l:=by
 induction l with
 |nil=>intro s h;cases h
 |cons a r ih=>
  intro s h
  by_cases he:a=s
  ·subst he
   exact ⟨r,fun t ht hne=>(mC ht).resolve_left hne,by simp[xt];omega⟩
  ·obtain ⟨l',h1,h2⟩:=ih ((mC h).resolve_left fun e=>he e.symm)
   refine ⟨a::l',fun t ht hne=>?_,by simp[xt]at h2⊢;omega⟩
   rcases mC ht with rfl|ht
   ·simp
   ·exact List.mem_cons_of_mem _ (h1 t ht hne)
theorem YS:∀{T l:List ByteArray},T.Nodup→(∀s∈T,s∈l)→xt T≤xt l
 |[],_,_,_=>by simp[xt]
 |s::r,l,hn,hs=>by
    obtain ⟨l',h1,h2⟩:=qdk (hs s zp)
    have hn':=List.nodup_cons.1 hn
    have h3:=YS (T:=r) (l:=l') hn'.2 fun t ht=>h1 t (hs t (by simp[ht])) (by rintro rfl;exact hn'.1 ht)
    simp[xt]at h2 h3⊢
    omega
theorem QU:∀{l:List ByteArray},l.length≤xt l
 |[]=>Nat.zero_le _
 |s::r=>by have:=QU (l:=r);simp[xt]at this⊢;omega
theorem qac {tag:Nat} (ht:tag<1048576):∀{T:List ByteArray},xt T≤100000000→(xD tag T).length≤12*xt T
 |[],_=>Nat.zero_le _
 |s::r,h=>by
    have h0:xt (s::r)=s.size+1+xt r:=by simp[xt]
    have h1:=qac (T:=r) ht ox
    have hs:(sB s).length=s.size:=by simp only[sB,List.length_map,Array.length_toList];rfl
    have h2:=Zr (M:=sB s) ht ox
    have h3:(xD tag (s::r)).length=(xO (.bys tag (sB s))).length+(xD tag r).length:=by rw[xD,List.flatMap_cons,lA];rfl
    omega
def Xk (n:Nat) (l:vz):vz:={ l with fn:=if 0≤l.fn then l.fn+n else l.fn }
def yf (m n:Nat) (l:vP):vP:={ l with mapping:=if 0≤l.mapping then l.mapping+m else l.mapping,lines:=l.lines.map (Xk n) }
def XN (n:Nat) (s:ku):ku:={ s with stack:=s.stack.map (· +(n:Int)) }
def rnM (i:Nat) (m:qK):qK:={ m with id:=((i+1:Nat):Int) }
def rnF (i:Nat) (f:yl):yl:={ f with id:=((i+1:Nat):Int) }
def rnL (i:Nat) (l:vP):vP:={ l with id:=((i+1:Nat):Int) }
def rn {α:Type} (f:Nat→α→α) (k:Nat) (xs:List α):List α:=xs.mapIdx fun i a=>if i<k then f i a else a
theorem qgH {α:Type} (f:Nat→α→α) (k:Nat) (xs:List α):(rn f k xs).length=xs.length:=by simp[rn]
theorem qaY {α:Type} (f:Nat→α→α) (xs:List α):rn f 0 xs=xs:=by
 apply List.ext_getElem?
 intro i
 simp[rn]
theorem XI {α:Type} (f:Nat→α→α) (k:Nat) (xs:List α) (i:Nat):(rn f k xs)[i]? =(xs[i]?).map fun a=>if i<k then f i a else a:=by simp[rn]
theorem qds {α:Type} {f:Nat→α→α} {xs:List α} (h:xs.length≤k):rn f k xs=xs.mapIdx f:=by
 apply List.ext_getElem?
 intro i
 rw[XI,List.getElem?_mapIdx]
 cases hx:xs[i]? with
 |none=>rfl
 |some a=>
  have:=(List.getElem?_eq_some_iff.1 hx).1
  simp only[Option.map_some,if_pos (show i<k by omega)]
abbrev xJ (x:jD) (d q:Int):jD:={ x with dur:=d,period:=q }
def qy (x y:jD):jD:=
 { x with
   samples:=x.samples++y.samples.map (XN x.locs.length)
   mappings:=(x.mappings++y.mappings).mapIdx rnM
   locs:=(x.locs++y.locs.map (yf x.mappings.length x.funcs.length)).mapIdx rnL
   funcs:=(x.funcs++y.funcs).mapIdx rnF
   dur:=IntKind.i64.wrap (x.dur+y.dur)
   period:=if x.period<y.period then y.period else x.period }
theorem qdA {α:Type} {f:Nat→α→α} {g:α→Int} (hf:∀i a,g (f i a)=((i+1:Nat):Int)) (xs:List α):(0:Int)∉(xs.mapIdx f).map g∧((xs.mapIdx f).map g).Nodup:=by
 have e:(xs.mapIdx f).map g=(List.range xs.length).map fun i=>((i+1:Nat):Int):=by
  apply List.ext_getElem?
  intro i
  rw[List.getElem?_map,List.getElem?_mapIdx,List.getElem?_map]
  by_cases hi:i<xs.length
  ·rw[gE hi,List.getElem?_range hi]
   simp only[Option.map_some,hf]
  ·rw[List.getElem?_eq_none ox,List.getElem?_eq_none (by simp;omega)];rfl
 rw[e]
 refine ⟨fun h=>?_,?_⟩
 ·obtain ⟨i, -,h⟩:=List.mem_map.1 h
  omega
 ·rw[List.nodup_iff_pairwise_ne,List.pairwise_map]
  exact List.nodup_range.imp fun {a b} h e=>h ox
theorem Qi {α β:Type} {f:Nat→α→β} {xs:List α} {b:β} (h:b∈xs.mapIdx f):∃i a,xs[i]? =some a∧b=f i a:=by
 obtain ⟨i,hi⟩:=List.mem_iff_getElem?.1 h
 rw[List.getElem?_mapIdx]at hi
 cases ha:xs[i]? with
 |none=>rw[ha]at hi;cases hi
 |some a=>rw[ha]at hi;exact ⟨i,a,ha,(Option.some.inj hi).symm⟩
theorem zQ.mv (h:zQ s) (n:Nat):zQ (XN n s):=⟨h.tlen,h.nlen,h.tasc,h.nasc,h.tl,h.nl⟩
theorem Kf {x y:jD} (hx:vW x) (hy:vW y):∀l∈(qy x y).locs,(-1≤l.mapping∧l.mapping<(qy x y).mappings.length)∧l.lines.length≤60∧∀n∈l.lines, -1≤n.fn∧n.fn<(qy x y).funcs.length:=by
 intro l hl
 obtain ⟨i,a,ha,rfl⟩:=Qi hl
 have e1:((qy x y).mappings.length:Int)=x.mappings.length+y.mappings.length:=by simp[qy]
 have e2:((qy x y).funcs.length:Int)=x.funcs.length+y.funcs.length:=by simp[qy]
 rw[e1,e2]
 rcases mA (mG ha) with h|h
 ·obtain ⟨⟨h1,h2⟩,h3,h4⟩:=hx.tab.locs a h
  exact ⟨⟨h1,by show a.mapping<_;omega⟩,h3,fun n hn=>⟨(h4 n hn).1,by have:=(h4 n hn).2;omega⟩⟩
 ·obtain ⟨b,hb,rfl⟩:=List.mem_map.1 h
  obtain ⟨⟨h1,h2⟩,h3,h4⟩:=hy.tab.locs b hb
  refine ⟨?_,by show (b.lines.map _).length≤60;simpa using h3,fun n hn=>?_⟩
  ·show -1≤(if 0≤b.mapping then b.mapping+(x.mappings.length:Int) else b.mapping)∧(if 0≤b.mapping then b.mapping+(x.mappings.length:Int) else b.mapping)<_
   split<;>omega
  ·obtain ⟨k,hk,rfl⟩:=List.mem_map.1 (show n∈b.lines.map (Xk x.funcs.length) from hn)
   have:=h4 k hk
   show -1≤(if 0≤k.fn then k.fn+(x.funcs.length:Int) else k.fn)∧(if 0≤k.fn then k.fn+(x.funcs.length:Int) else k.fn)<_
   split<;>omega
theorem Qk {x y:jD} (hx:vW x) (hy:vW y) (ht:x.types=y.types):∀s∈(qy x y).samples,s.values.length=x.types.length∧x.types.length≠0∧s.stack.length≤60∧zQ s∧∀k∈s.stack,0≤k∧k<(qy x y).locs.length:=by
 intro s hs
 have e1:((qy x y).locs.length:Int)=x.locs.length+y.locs.length:=by simp[qy]
 rw[e1]
 rcases mA (show s∈x.samples++y.samples.map (XN x.locs.length) from hs) with h|h
 ·obtain ⟨h1,h2,h3,h4,h5⟩:=hx.samples s h
  exact ⟨h1,h2,h3,h4,fun k hk=>⟨(h5 k hk).1,by have:=(h5 k hk).2;omega⟩⟩
 ·obtain ⟨b,hb,rfl⟩:=List.mem_map.1 h
  obtain ⟨h1,h2,h3,h4,h5⟩:=hy.samples b hb
  refine ⟨by rw[ht];exact h1,by rw[ht];exact h2,by show (b.stack.map _).length≤60;simpa using h3,h4.mv _,fun k hk=>?_⟩
  obtain ⟨j,hj,rfl⟩:=List.mem_map.1 (show k∈b.stack.map (· +(x.locs.length:Int)) from hk)
  have:=h5 j hj
  constructor<;>omega
theorem yw {x y:jD} (hx:vW x) (hy:vW y):(qy x y).samples.length≤120∧(qy x y).mappings.length≤120∧(qy x y).funcs.length≤120∧(qy x y).locs.length≤120:=by
 have n2:=hx.nsam
 have m2:=hy.nsam
 have n3:=hx.tab.m.2.2
 have n5:=hx.tab.f.2.2
 have n4:=hx.tab.l.2.2
 have m3:=hy.tab.m.2.2
 have m5:=hy.tab.f.2.2
 have m4:=hy.tab.l.2.2
 simp only[List.length_map]at n3 n4 n5 m3 m4 m5
 refine ⟨?_,?_,?_,?_⟩<;>simp[qy]<;>omega
theorem qfx {x y:jD} (hx:vW x) (hy:vW y) (ht:x.types=y.types):Chk (qy x y):=by
 obtain ⟨l1,l2,l3,l4⟩:=yw hx hy
 exact ⟨fun s hs=>⟨(Qk hx hy ht s hs).1,(Qk hx hy ht s hs).2.1⟩,qdA (f:=rnM) (g:=(·.id)) (fun _ _=>rfl) _,qdA (f:=rnF) (g:=(·.id)) (fun _ _=>rfl) _,qdA (f:=rnL) (g:=(·.id)) (fun _ _=>rfl) _,
  fun l hl=>⟨(Kf hx hy l hl).1.2,by have:=(Kf hx hy l hl).2.1;omega,fun n hn=>((Kf hx hy l hl).2.2 n hn).2⟩,by omega,by omega,by omega,by omega⟩
theorem qfw {x y:jD} (hx:vW x) (hy:vW y) (ht:x.types=y.types):Pln (qy x y):=by
 obtain ⟨l1,l2,l3,l4⟩:=yw hx hy
 have n1:(qy x y).types.length≤60:=hx.ntyp
 have n6:(qy x y).comments.length≤60:=hx.ncom
 refine ⟨fun s hs=>?_,by omega,by omega,by omega,by omega,by omega,by omega,fun l hl=>?_⟩
 ·obtain ⟨h1,h2,h3,h4,h5⟩:=Qk hx hy ht s hs
  have:=hx.ntyp
  exact ⟨by omega,by omega,h4,h5⟩
 ·obtain ⟨h1,h2,h3⟩:=Kf hx hy l hl
  exact ⟨h1,by omega,h3⟩
theorem qeT (z:Int):IntKind.i64.wrap (IntKind.i64.wrap z)=IntKind.i64.wrap z:=by
 simp[IntKind.wrap,IntKind.bits,IntKind.signed];omega
theorem yY (h:n<18446744073709551616):IntKind.u64.wrap (n:Int)=(n:Int):=by
 simp[IntKind.wrap,IntKind.bits,IntKind.signed];omega
theorem qav {x y:jD} (hx:vW x) (hy:vW y) (rx:Rng x) (ry:Rng y):Rng (qy x y):=by
 obtain ⟨l1,l2,l3,l4⟩:=yw hx hy
 refine ⟨rx.time,qeT _,?_,fun s hs=>?_,fun s hs=>?_,fun m hm=>?_,fun l hl=>?_,fun f hf=>?_⟩
 ·show IntKind.i64.wrap (if x.period<y.period then y.period else x.period)=if x.period<y.period then y.period else x.period
  split
  ·exact ry.period
  ·exact rx.period
 ·rcases mA (show s∈x.samples++y.samples.map (XN x.locs.length) from hs) with h|h
  ·exact rx.vals s h
  ·obtain ⟨b,hb,rfl⟩:=List.mem_map.1 h
   exact ry.vals b hb
 ·rcases mA (show s∈x.samples++y.samples.map (XN x.locs.length) from hs) with h|h
  ·exact rx.nums s h
  ·obtain ⟨b,hb,rfl⟩:=List.mem_map.1 h
   exact ry.nums b hb
 ·obtain ⟨i,a,ha,rfl⟩:=Qi (show m∈(x.mappings++y.mappings).mapIdx rnM from hm)
  have hi:i<(qy x y).mappings.length:=by have:=(List.getElem?_eq_some_iff.1 ha).1;simpa[qy]using this
  have:a∈x.mappings∨a∈y.mappings:=mA (mG ha)
  have h:=this.elim (rx.maps a) (ry.maps a)
  exact ⟨yY ox,h.2⟩
 ·obtain ⟨i,a,ha,rfl⟩:=Qi (show l∈(x.locs++y.locs.map (yf x.mappings.length x.funcs.length)).mapIdx rnL from hl)
  have hi:i<(qy x y).locs.length:=by have:=(List.getElem?_eq_some_iff.1 ha).1;simpa[qy]using this
  refine ⟨yY ox,?_⟩
  rcases mA (mG ha) with h|h
  ·exact (rx.locs a h).2
  ·obtain ⟨b,hb,rfl⟩:=List.mem_map.1 h
   refine ⟨(ry.locs b hb).2.1,fun n hn=>?_⟩
   obtain ⟨k,hk,rfl⟩:=List.mem_map.1 (show n∈b.lines.map (Xk x.funcs.length) from hn)
   exact (ry.locs b hb).2.2 k hk
 ·obtain ⟨i,a,ha,rfl⟩:=Qi (show f∈(x.funcs++y.funcs).mapIdx rnF from hf)
  have hi:i<(qy x y).funcs.length:=by have:=(List.getElem?_eq_some_iff.1 ha).1;simpa[qy]using this
  have:a∈x.funcs∨a∈y.funcs:=mA (mG ha)
  have h:=this.elim (rx.funs a) (ry.funs a)
  exact ⟨yY ox,h.2⟩
theorem QF.toF {β γ:Type} {enc:γ→Value} {ts:List β} {key:β→ByteArray} {lst:β→List γ} (h:QF T w v (ts.map fun t=>(key t,(lst t).map enc))) (hne:∀t∈ts,lst t≠[]) (hn:(ts.map key).Nodup):
  Qb T enc w v fun k=>((ts.find? fun t=>key t=k).map lst).getD []:=by
 have hk:∀(k:ByteArray) t,t∈ts→key t=k→ts.find? (fun t=>key t=k)=some t:=fun k t ht e=>by
  cases hf:ts.find? fun t=>key t=k with
  |none=>exact absurd e (by simpa using List.find?_eq_none.1 hf t ht)
  |some u=>
   have h1:=List.mem_of_find?_eq_some hf
   have h2:key u=k:=by simpa using List.find?_some hf
   obtain ⟨i,hi⟩:=List.mem_iff_getElem?.1 ht
   obtain ⟨j,hj⟩:=List.mem_iff_getElem?.1 h1
   have hil:=(List.getElem?_eq_some_iff.1 hi).1
   have hjl:=(List.getElem?_eq_some_iff.1 hj).1
   have:i=j:=zN hn (by simpa using hil) (by simpa using hjl) (by rw[List.getElem_map,List.getElem_map,(List.getElem?_eq_some_iff.1 hi).2,(List.getElem?_eq_some_iff.1 hj).2,e,h2])
   subst this;rw[hi]at hj;cases hj;rfl
 have hno:∀k,k∉ts.map key→((ts.find? fun t=>key t=k).map lst).getD []=[]:=fun k hm=>by
  rw[List.find?_eq_none.2 fun t ht=>by simp only[decide_eq_true_eq];exact fun e=>hm (by rw[← e];exact mq ht)];rfl
 rcases h with ⟨h1,h2⟩|⟨b,es,ck,ms,h1,h2,h3,h4,h5⟩
 ·refine .inl ⟨h2,fun k=>?_⟩
  have:ts=[]:=List.map_eq_nil_iff.1 h1
  subst this;rfl
 ·have h4':ms.map (·.1)=ts.map key:=by rw[h4,List.map_map];rfl
  refine .inr ⟨b,ms,es,ck,h1,h2,h3,fun k u hu=>?_,fun k hu=>?_⟩
  ·obtain ⟨i,hi⟩:=List.mem_iff_getElem?.1 (qcq hu)
   have hil:=(List.getElem?_eq_some_iff.1 hi).1
   have hlen:ms.length=ts.length:=by simpa using congrArg List.length h4'
   have hit:ts[i]? =some (ts[i]' ox):=gE ox
   have hkk:key (ts[i]' ox)=k:=by
    have e1:(ms.map (·.1))[i]? =some k:=by rw[List.getElem?_map,hi];rfl
    rw[h4',List.getElem?_map,hit]at e1
    exact Option.some.inj e1
   have hmt:=mG hit
   simp only[hk k _ hmt hkk]
   exact ⟨by simpa using hne _ hmt,h5 i _ _ hi (by rw[List.getElem?_map,hit];rfl)⟩
  ·exact hno k (by rw[← h4'];exact JT.1 hu)
theorem qdT.q {locs:List Nat} (h:qdT w locs b s) (hL:zQ s):KY w locs b s:=by
 obtain ⟨ls,vs,lm,nm,h1,h2,h3,h4,h5⟩:=h.ex
 exact ⟨ls,vs,lm,nm,_,_,h1,h2,h3,QF.toF h4 (fun t ht=>(hL.tl t ht).1) (hL.tpw.imp fun {a b} h e=>by subst e;rw[zv]at h;cases h),QF.toF h5 (fun t ht=>(hL.nl t ht).1) (hL.npw.imp fun {a b} h e=>by subst e;rw[zv]at h;cases h),rfl,rfl⟩
theorem OfP.q {x:jD} (h:OfP B w x g) (hx:∀s∈x.samples,zQ s):OfQ B w x g:=
 { prof:=h.prof,per:=h.per,types:=h.types,maps:=h.maps,funs:=h.funs,locs:=h.locs,sams:=⟨h.sams.1,fun i b s hb hs=>(h.sams.2 i b s hb hs).q (hx s (mG hs))⟩
   ntypes:=h.ntypes,nmaps:=h.nmaps,nfuns:=h.nfuns,nlocs:=h.nlocs,nsams:=h.nsams,fresh:=h.fresh,rows:=h.rows }
theorem qkA (w:World) (a b:Nat) (t:xn) (h1:Blk w a tVT (cVT t)) (h2:Blk w b tVT (cVT t)):Calls Tryz.prog 107 #[ptr a,ptr b] w (Ret fun v w'=>v=.bool true∧Fr 0 [] w w'):=by
 have hc1:=mc (f:=⟨w,0,[]⟩) h1 rfl
 have hc2:=mc (f:=⟨w,0,[]⟩) h2 rfl
 refine jr (args:=[_,_]) [(0,_),(1,_)] 0 [] [] func107 rfl ntmps107 rfl rfl .nil ?_
 refine sQ fun K1=>jb (jA (k:=K1 (sQ fun K2=>sQ fun K3=>jb (jM (k:=?_)))))
 refine jn rfl (fun _ _ h=>YC YO rfl h) (jM (k:=?_))
 refine jy rfl rfl (jM (k:=?_))
 refine jy rfl rfl (jn rfl (fun _ _ h=>YC YO rfl h) (jK (k:=K3 ?_)))
 refine jO rfl (jg (K2 (sQ fun K4=>jC 21 (lts [0,1,2,3,4,5,6,7,8,9,10,11,12,13,14,15,16,17,18,19,20]) [] rfl (by kernel_rfl) (by kernel_rfl) (dM [] (k:=dN [] (k:=dF [] 0 xF so9 (k:=dL [] ag9 hc1 0 (k:=dM [] (k:=dN [] (k:=dF [] 0 xF so9 (k:=dL [] ag9 hc2 0 (k:=?_))))))))))))
 refine jo rfl rfl (jd [] rfl) (fun _ _ h=>Qg rfl rfl h) ?_
 refine zi (u:=.bool true) zp ?_
 refine dM [] (k:=?_)
 refine kK rfl rfl rfl rfl (jd [] rfl) (fun a w ha hS=>vm rfl ha) (kK rfl rfl rfl rfl (jd [] rfl) (fun a w ha hS=>yG rfl ha) (kK rfl rfl rfl rfl (jd [] rfl) (fun a w ha hS=>xR (q:=1) (ft:=9) xF rfl so9 rfl ha) (kK rfl rfl rfl rfl (jd [] rfl) (fun a w ha hS=>kP ag9 rfl (hc1 w (hS.2) 1 _ rfl) ha) (kK rfl rfl rfl rfl (jd [] rfl) (fun a w ha hS=>vm rfl ha) (kK rfl rfl rfl rfl (jd [] rfl) (fun a w ha hS=>yG rfl ha) (kK rfl rfl rfl rfl (jd [] rfl) (fun a w ha hS=>xR (q:=1) (ft:=9) xF rfl so9 rfl ha) (kK rfl rfl rfl rfl (jd [] rfl) (fun a w ha hS=>kP ag9 rfl (hc2 w (hS.2) 1 _ rfl) ha) (kK rfl rfl rfl rfl (jd [] rfl) (fun a w ha hS=>Qg rfl rfl ha) ?_))))))))
 refine zi (u:=.bool true) zp ?_
 refine jo rfl rfl (jd [] rfl) (fun _ _ h=>qD rfl rfl h) (dA [] (k:=K4 (CJ.t [(4,_)] (k:=jj ?_))))
 exact je results107 rfl fun w' hH hf=>⟨rfl,hf⟩
set_option maxHeartbeats 1000000 in
theorem qbA (w:World) (x y:jD) (g g':G) (B B':Nat) (hG:OfQ B w x g) (hG':OfQ B' w y g') (ht:x.types=y.types) (hp:x.per=y.per) (hn:x.types.length≤1000):
  Calls Tryz.prog 90 #[ptr g.pb,ptr g'.pb] w (Ret fun v w'=>v=.nilIface∧Fr 0 [] w w'):=by
 obtain ⟨tyv,sav,mav,lov,fuv,cov,hpb,hty, -⟩:=hG.prof
 obtain ⟨tyv',sav',mav',lov',fuv',cov',hpb',hty', -⟩:=hG'.prof
 obtain ⟨p1,l1,c1,rfl,hl1, -,hx1⟩:=hty.openF
 obtain ⟨p2,l2,c2,rfl,hl2, -,hx2⟩:=hty'.openF
 obtain rfl:l1=x.types.length:=by have:=hG.types.1;simp at hl1;omega
 obtain rfl:l2=x.types.length:=by have:=hG'.types.1;rw[← ht]at this;simp at hl2;omega
 have hc0:=mc (f:=⟨w,0,[]⟩) hpb rfl
 have hc1:=mc (f:=⟨w,0,[]⟩) hpb' rfl
 refine jr (args:=[_,_]) [(0,_),(1,_)] 0 [] [] func90 rfl ntmps90 rfl rfl .nil ?_
 refine sQ fun K1=>jb (jA (k:=K1 ?_))
 refine qP fun K2 hK2=>sQ fun K3=>jC 10 (lts [0,1,2,3,4,5,6,7]++(8,false)::lts [9]) [] rfl (by kernel_rfl) (by kernel_rfl) (dM [] (k:=dN [] (k:=dF [] 11 jz yO (k:=dL [] Jp hc0 11 (k:=dM [] (k:=dN [] (k:=dF [] 11 jz yO (k:=dL [] Jp hc1 11 (k:=dE (h:=fun Kd=>?_))))))))))
 refine kg (φ:=fun v=>v=.bool true) call107 rfl rfl (fun w' hH hf=>qkA w' g.per g'.per x.per (jk hf rfl _ _ hG.per) (by rw[hp];exact jk hf rfl _ _ hG'.per)) fun v hv=>?_
 subst hv
 refine Kd (sb []) (jo rfl rfl (jd [] rfl) (fun _ _ h=>qaj rfl h) (K3 (CJ.t [(0,_),(1,_),(15,_)] (k:=?_))))
 refine jO rfl (jg (ji (hK2 _ _ _ (sQ fun K4=>sQ fun K5=>jC 11 (lts [0,1,2,3,4,5,6,7,8,9,10]) [] rfl (by kernel_rfl) (by kernel_rfl) (dM [] (k:=dN [] (k:=dF [] 0 jz JA (k:=dL [] Qx hc0 0 (k:=?_)))))))))
 refine jo rfl rfl (jd [] rfl) (fun _ _ h=>JY zV rfl h) (dM [] (k:=dN [] (k:=dF [] 0 jz JA (k:=dL [] Qx hc1 0 (k:=?_)))))
 refine jo rfl rfl (jd [] rfl) (fun _ _ h=>JY zV rfl h) (jo rfl rfl (jd [] rfl) (fun _ _ h=>yQ rfl rfl h) ?_)
 refine zi (u:=.bool false) zp ?_
 refine K5 (jO rfl (jg (K4 (sQ fun K6=>sQ fun K7=>jb (jM (k:=jN (k:=jF 0 jz JA (k:=jL Qx hc0 0 (k:=jE zV (k:=jM (k:=K7 (CJ.t [(0,_),(1,_),(33,_),(34,_)] (k:=?_)))))))))))))
 refine jh ?_
 refine jZ (σ:=Nat) (fun s=>[(0,ptr g.pb),(1,ptr g'.pb),(33,.int .i64 (x.types.length:Nat)),(34,.int .i64 (s:Nat))]) (fun _=>[]) (fun s _=>s≤x.types.length) (fun s=>x.types.length - s) 0 sR (fun w' hH hf=>⟨hH,Nat.zero_le _⟩) ?_
 rintro k2 u2 hk2 hf2 hH2 KL2 hKL2
 try dsimp only at hk2
 refine C.begin _ _ hf2 hH2 ?_
 try dsimp only
 refine sQ fun K8=>jb (jS (k:=K8 (sQ fun K9=>?_)))
 refine jq rfl (fun h35=>?_) (fun h35=>?_)
 ·have hk':k2<x.types.length:=by omega
  have hk2':k2<y.types.length:=by rw[← ht];exact hk'
  obtain ⟨bq,rfl,hsq⟩:=hx1 ox
  obtain ⟨br,rfl,hsr⟩:=hx2 ox
  have hkb:k2<g.types.length:=by rw[hG.types.1];exact hk'
  have hkb':k2<g'.types.length:=by rw[hG'.types.1];exact hk2'
  have hcell:=zu (k:=k2) (v:=ptr g.types[k2]) (Fr.refl 0 [] w) rfl hsq (by simp[hkb])
  have hcell':=zu (k:=k2) (v:=ptr g'.types[k2]) (Fr.refl 0 [] w) rfl hsr (by simp[hkb'])
  have hb1:=hG.types.2 _ _ _ (gE hkb) (gE hk')
  have hb2:=hG'.types.2 _ _ _ (gE hkb') (gE hk2')
  have hte:y.types[k2]=x.types[k2]:=by simp only[ht]
  rw[hte]at hb2
  refine jg (K9 (sQ fun K10=>jh (sQ fun K11=>jb (jM (k:=jA (k:=K11 (sQ fun K12=>?_)))))))
  refine jC 16 (lts [0,1,2,3,4,5,6,7,8,9,10,11,12,13]++(14,false)::lts [15]) [] rfl (by kernel_rfl) (by kernel_rfl) (dM [] (k:=dN [] (k:=dF [] 0 jz JA (k:=dL [] Qx hc0 0 (k:=dM [] (k:=?_))))))
  refine jo rfl rfl (jd [] rfl) (fun _ _ h=>vH zV yO rfl rfl ox h) (dL [] Jp hcell 0 (k:=dM [] (k:=dN [] (k:=dF [] 0 jz JA (k:=dL [] Qx hc1 0 (k:=dM [] (k:=?_)))))))
  refine jo rfl rfl (jd [] rfl) (fun _ _ h=>vH zV yO rfl rfl ox h) (vV rfl rfl (jd [] rfl) (fun a w ha hS=>kP Jp rfl (hcell' w (hS.2) 0 _ rfl) ha) (dE (h:=fun Kd=>?_)))
  refine kg (φ:=fun v=>v=.bool true) call107 rfl rfl (fun w' hH hf=>qkA w' _ _ x.types[k2] (jk hf rfl _ _ hb1) (jk hf rfl _ _ hb2)) fun v hv=>?_
  subst hv
  refine Kd (sb []) (jo rfl rfl (jd [] rfl) (fun _ _ h=>qaj rfl h) (K12 (CJ.t [(0,_),(1,_),(33,_),(34,_),(52,_)] (k:=?_))))
  refine jO rfl (jg (K10 (jb (jI (k:=jM (k:=jw (ji ?_)))))))
  exact fun w' hH hf=>hKL2 (k2+1) _ w' hk' hf hH ox sR
 ·clear hKL2
  refine jt (K6 (sQ fun K13=>jb (jA (k:=K13 (jj ?_)))))
  exact je results90 rfl fun w' hH hf=>⟨rfl,hf⟩
end Go.Proofs.YtifdadlhmlhfiaaGreatDoor
namespace Go.Proofs
open Go.Shelf
variable {T n:Nat} {w:World}
def Tryz.sortTx_ren:Go.Shelf.Ren:=⟨fun|6=>98|15=>114|14=>113|28=>132|29=>133|20=>124|21=>125|22=>126|23=>127|24=>128|25=>129|26=>130|27=>131|46=>150|47=>151|48=>152|49=>153|50=>154|57=>169|n=>n,fun|22=>54|24=>109|25=>186|3=>3|39=>152|0=>0|53=>236|55=>71|4=>4|46=>230|45=>229|50=>215|5=>5|9=>9|66=>251|70=>255|76=>265|77=>266|n=>n,fun|n=>n⟩
theorem Tryz.sortTx:Go.Proofs.SlLaysF0.n6 Tryz.prog Tryz.sortTx_ren:={
 mixed:=by kernel_rfl
 f6:=⟨Tryz.f98.name,by decide,Tryz.func98.trans (congrArg some (by kernel_rfl))⟩
 f14:=⟨Tryz.f113.name,by decide,Tryz.func113.trans (congrArg some (by kernel_rfl))⟩
 f15:=Tryz.func114.trans (congrArg some (by kernel_rfl))
 f20:=⟨Tryz.f124.name,by decide,Tryz.func124.trans (congrArg some (by kernel_rfl))⟩
 f21:=⟨Tryz.f125.name,by decide,Tryz.func125.trans (congrArg some (by kernel_rfl))⟩
 f22:=⟨Tryz.f126.name,by decide,Tryz.func126.trans (congrArg some (by kernel_rfl))⟩
 f23:=⟨Tryz.f127.name,by decide,Tryz.func127.trans (congrArg some (by kernel_rfl))⟩
 f24:=⟨Tryz.f128.name,by decide,Tryz.func128.trans (congrArg some (by kernel_rfl))⟩
 f25:=⟨Tryz.f129.name,by decide,Tryz.func129.trans (congrArg some (by kernel_rfl))⟩
 f26:=⟨Tryz.f130.name,by decide,Tryz.func130.trans (congrArg some (by kernel_rfl))⟩
 f27:=⟨Tryz.f131.name,by decide,Tryz.func131.trans (congrArg some (by kernel_rfl))⟩
 f28:=Tryz.func132.trans (congrArg some (by kernel_rfl))
 f29:=Tryz.func133.trans (congrArg some (by kernel_rfl))
 f46:=⟨Tryz.f150.name,by decide,Tryz.func150.trans (congrArg some (by kernel_rfl))⟩
 f47:=Tryz.func151.trans (congrArg some (by kernel_rfl))
 f48:=Tryz.func152.trans (congrArg some (by kernel_rfl))
 f49:=⟨Tryz.f153.name,by decide,Tryz.func153.trans (congrArg some (by kernel_rfl))⟩
 f50:=⟨Tryz.f154.name,by decide,Tryz.func154.trans (congrArg some (by kernel_rfl))⟩
 f57:=⟨Tryz.f169.name,by decide,Tryz.func169.trans (congrArg some (by kernel_rfl))⟩
 t0:=Tryz.underlying0
 a0:=Tryz.isAgg0
 z0:=Tryz.sizeOf0
 v0:=Tryz.zeroValue0
 t3:=Tryz.underlying3
 a3:=Tryz.isAgg3
 z3:=Tryz.sizeOf3
 v3:=Tryz.zeroValue3
 t4:=Tryz.underlying4
 a4:=Tryz.isAgg4
 z4:=Tryz.sizeOf4
 v4:=Tryz.zeroValue4
 t5:=Tryz.underlying5
 a5:=Tryz.isAgg5
 z5:=Tryz.sizeOf5
 v5:=Tryz.zeroValue5
 t9:=Tryz.underlying9
 a9:=Tryz.isAgg9
 z9:=Tryz.sizeOf9
 v9:=Tryz.zeroValue9
 t22:=Tryz.underlying54
 a22:=Tryz.isAgg54
 z22:=Tryz.sizeOf54
 v22:=Tryz.zeroValue54
 t25:=Tryz.underlying186
 a25:=Tryz.isAgg186
 z25:=Tryz.sizeOf186
 v25:=Tryz.zeroValue186
 t39:=Tryz.underlying152
 a39:=Tryz.isAgg152
 z39:=Tryz.sizeOf152
 v39:=Tryz.zeroValue152
 t45:=Tryz.underlying229
 a45:=Tryz.isAgg229
 z45:=Tryz.sizeOf229
 v45:=Tryz.zeroValue229
 t46:=Tryz.underlying230
 a46:=Tryz.isAgg230
 z46:=Tryz.sizeOf230
 v46:=Tryz.zeroValue230
 t50:=Tryz.underlying215
 a50:=Tryz.isAgg215
 z50:=Tryz.sizeOf215
 v50:=Tryz.zeroValue215
 t53:=Tryz.underlying236
 a53:=Tryz.isAgg236
 z53:=Tryz.sizeOf236
 v53:=Tryz.zeroValue236
 t55:=Tryz.underlying71
 a55:=Tryz.isAgg71
 z55:=Tryz.sizeOf71
 v55:=Tryz.zeroValue71
 t66:=Tryz.underlying251
 a66:=Tryz.isAgg251
 z66:=Tryz.sizeOf251
 v66:=Tryz.zeroValue251
 t70:=Tryz.underlying255
 a70:=Tryz.isAgg255
 z70:=Tryz.sizeOf255
 v70:=Tryz.zeroValue255
 t76:=Tryz.underlying265
 a76:=Tryz.isAgg265
 z76:=Tryz.sizeOf265
 v76:=Tryz.zeroValue265
 t77:=Tryz.underlying266
 a77:=Tryz.isAgg266
 z77:=Tryz.sizeOf266
 v77:=Tryz.zeroValue266 }
def Tryz.sortNu_ren:Go.Shelf.Ren:=⟨fun|6=>101|15=>114|14=>115|28=>132|29=>133|20=>134|21=>135|22=>136|23=>137|24=>138|25=>139|26=>140|27=>141|46=>155|47=>151|48=>152|49=>156|50=>157|57=>170|n=>n,fun|22=>55|24=>112|25=>188|3=>3|39=>152|0=>0|53=>236|55=>71|4=>4|46=>230|45=>229|50=>215|5=>5|9=>9|66=>251|70=>255|76=>265|77=>266|n=>n,fun|n=>n⟩
theorem Tryz.sortNu:Go.Proofs.SlLaysF0.n6 Tryz.prog Tryz.sortNu_ren:={
 mixed:=by kernel_rfl
 f6:=⟨Tryz.f101.name,by decide,Tryz.func101.trans (congrArg some (by kernel_rfl))⟩
 f14:=⟨Tryz.f115.name,by decide,Tryz.func115.trans (congrArg some (by kernel_rfl))⟩
 f15:=Tryz.func114.trans (congrArg some (by kernel_rfl))
 f20:=⟨Tryz.f134.name,by decide,Tryz.func134.trans (congrArg some (by kernel_rfl))⟩
 f21:=⟨Tryz.f135.name,by decide,Tryz.func135.trans (congrArg some (by kernel_rfl))⟩
 f22:=⟨Tryz.f136.name,by decide,Tryz.func136.trans (congrArg some (by kernel_rfl))⟩
 f23:=⟨Tryz.f137.name,by decide,Tryz.func137.trans (congrArg some (by kernel_rfl))⟩
 f24:=⟨Tryz.f138.name,by decide,Tryz.func138.trans (congrArg some (by kernel_rfl))⟩
 f25:=⟨Tryz.f139.name,by decide,Tryz.func139.trans (congrArg some (by kernel_rfl))⟩
 f26:=⟨Tryz.f140.name,by decide,Tryz.func140.trans (congrArg some (by kernel_rfl))⟩
 f27:=⟨Tryz.f141.name,by decide,Tryz.func141.trans (congrArg some (by kernel_rfl))⟩
 f28:=Tryz.func132.trans (congrArg some (by kernel_rfl))
 f29:=Tryz.func133.trans (congrArg some (by kernel_rfl))
 f46:=⟨Tryz.f155.name,by decide,Tryz.func155.trans (congrArg some (by kernel_rfl))⟩
 f47:=Tryz.func151.trans (congrArg some (by kernel_rfl))
 f48:=Tryz.func152.trans (congrArg some (by kernel_rfl))
 f49:=⟨Tryz.f156.name,by decide,Tryz.func156.trans (congrArg some (by kernel_rfl))⟩
 f50:=⟨Tryz.f157.name,by decide,Tryz.func157.trans (congrArg some (by kernel_rfl))⟩
 f57:=⟨Tryz.f170.name,by decide,Tryz.func170.trans (congrArg some (by kernel_rfl))⟩
 t0:=Tryz.underlying0
 a0:=Tryz.isAgg0
 z0:=Tryz.sizeOf0
 v0:=Tryz.zeroValue0
 t3:=Tryz.underlying3
 a3:=Tryz.isAgg3
 z3:=Tryz.sizeOf3
 v3:=Tryz.zeroValue3
 t4:=Tryz.underlying4
 a4:=Tryz.isAgg4
 z4:=Tryz.sizeOf4
 v4:=Tryz.zeroValue4
 t5:=Tryz.underlying5
 a5:=Tryz.isAgg5
 z5:=Tryz.sizeOf5
 v5:=Tryz.zeroValue5
 t9:=Tryz.underlying9
 a9:=Tryz.isAgg9
 z9:=Tryz.sizeOf9
 v9:=Tryz.zeroValue9
 t22:=Tryz.underlying55
 a22:=Tryz.isAgg55
 z22:=Tryz.sizeOf55
 v22:=Tryz.zeroValue55
 t25:=Tryz.underlying188
 a25:=Tryz.isAgg188
 z25:=Tryz.sizeOf188
 v25:=Tryz.zeroValue188
 t39:=Tryz.underlying152
 a39:=Tryz.isAgg152
 z39:=Tryz.sizeOf152
 v39:=Tryz.zeroValue152
 t45:=Tryz.underlying229
 a45:=Tryz.isAgg229
 z45:=Tryz.sizeOf229
 v45:=Tryz.zeroValue229
 t46:=Tryz.underlying230
 a46:=Tryz.isAgg230
 z46:=Tryz.sizeOf230
 v46:=Tryz.zeroValue230
 t50:=Tryz.underlying215
 a50:=Tryz.isAgg215
 z50:=Tryz.sizeOf215
 v50:=Tryz.zeroValue215
 t53:=Tryz.underlying236
 a53:=Tryz.isAgg236
 z53:=Tryz.sizeOf236
 v53:=Tryz.zeroValue236
 t55:=Tryz.underlying71
 a55:=Tryz.isAgg71
 z55:=Tryz.sizeOf71
 v55:=Tryz.zeroValue71
 t66:=Tryz.underlying251
 a66:=Tryz.isAgg251
 z66:=Tryz.sizeOf251
 v66:=Tryz.zeroValue251
 t70:=Tryz.underlying255
 a70:=Tryz.isAgg255
 z70:=Tryz.sizeOf255
 v70:=Tryz.zeroValue255
 t76:=Tryz.underlying265
 a76:=Tryz.isAgg265
 z76:=Tryz.sizeOf265
 v76:=Tryz.zeroValue265
 t77:=Tryz.underlying266
 a77:=Tryz.isAgg266
 z77:=Tryz.sizeOf266
 v77:=Tryz.zeroValue266 }
open Go Go.Fw Go.Proofs.YtifdadlhmlhfiaaGreatDoor Go.Shelf Go.RowKit Go.Lib Go.Sort
def ZN (x y:ByteArray):Int:=if ltB x y=true then -1 else if (ltB x y||decide (x=y))=true then 0 else 1
theorem qgG {P:Program} (x y:ByteArray) (W:World):Sem.run P (binOp BinOp.gtr 9 (Value.string x) (Value.string y)) W=.ok (.bool (!(ltB x y||decide (x=y)))) W:=by
 simp[binOp,Op.stringOp,ltB,qeH]
set_option maxHeartbeats 1000000 in
theorem YtifdadlhmlhfiaaGreatDoor.compared_c (x y:ByteArray) (W:World):Calls Tryz.prog 100 #[.string x,.string y] W fun e w'=>e=.returned (.int .i64 (ZN x y))∧w'=W:=by
 go_enter Tryz.func100,Tryz.ntmps100
 go_wp2
 ·go_ret
  have h:ltB x y=true:= ‹_›
  simp[ZN,h]
 ·rw[qgG]
  have h:ltB x y=false:= ‹_›
  go_wp2
  ·go_ret
   have h2:(!decide (x=y))=true:= ‹_›
   simp at h2
   simp[ZN,h,h2]
  ·go_ret
   have h2:(!decide (x=y))=false:= ‹_›
   simp at h2
   subst h2
   simp[ZN,h]
set_option maxHeartbeats 1000000 in
theorem YtifdadlhmlhfiaaGreatDoor.clo1_c (x y:ByteArray) (p q:Option Addr) (l c m d:Nat) (W:World):Calls Tryz.prog 99 #[.agg #[.string x,.slice p l c],.agg #[.string y,.slice q m d]] W fun e w'=>e=.returned (.int .i64 (ZN x y))∧∃k os',w'=grow (W.drewN k) os':=by
 have hcon:=fun W'=>YtifdadlhmlhfiaaGreatDoor.compared_c x y W'
 generalize ZN x y=r at hcon⊢
 go_enter Tryz.func99,Tryz.ntmps99
 go_wp2_with (go_at_call 100;refine (hcon _).mono ?_;rintro e w' ⟨rfl,rfl⟩)
 go_ret
 exact ⟨rfl,0,_,by rw[alloc_eq_grow,alloc_eq_grow,grow_grow];rfl⟩
set_option maxHeartbeats 1000000 in
theorem YtifdadlhmlhfiaaGreatDoor.clo2_c (x y:ByteArray) (p q:Option Addr) (l c m d:Nat) (W:World):Calls Tryz.prog 102 #[.agg #[.string x,.slice p l c],.agg #[.string y,.slice q m d]] W fun e w'=>e=.returned (.int .i64 (ZN x y))∧∃k os',w'=grow (W.drewN k) os':=by
 have hcon:=fun W'=>YtifdadlhmlhfiaaGreatDoor.compared_c x y W'
 generalize ZN x y=r at hcon⊢
 go_enter Tryz.func102,Tryz.ntmps102
 go_wp2_with (go_at_call 100;refine (hcon _).mono ?_;rintro e w' ⟨rfl,rfl⟩)
 go_ret
 exact ⟨rfl,0,_,by rw[alloc_eq_grow,alloc_eq_grow,grow_grow];rfl⟩
abbrev LbE:=ByteArray×Option Addr×Nat×Nat
def xx (x:LbE):List Value:=[.string x.1,.slice x.2.1 x.2.2.1 x.2.2.2]
def qid (x y:LbE):Int:=ZN x.1 y.1
theorem ltL (x y:LbE):ltOf qid x y=ltB x.1 y.1:=by
 unfold ltOf qid ZN
 cases h:ltB x.1 y.1
 ·by_cases e:x.1=y.1<;>simp[e]
 ·simp
theorem swoL:SWO (ltOf qid) where
 irrefl x:=by rw[ltL,XP];simp[List.lt_irrefl]
 trans x y z h1 h2:=by
  rw[ltL,XP]at*
  simp only[decide_eq_true_eq]at*
  exact List.lt_trans h1 h2
 ntrans x y z h1 h2:=by
  rw[ltL,XP]at*
  simp only[decide_eq_false_iff_not,List.not_lt]at*
  exact List.le_trans h2 h1
theorem Xu (d:Array LbE):(flatK xx 2 d).toList=d.toList.flatMap xx:=by
 apply List.ext_getElem?
 intro j
 by_cases hj:j<d.size*2
 ·have h1:j/2<d.size:=by omega
  have e1:j=j/2*2+j%2:=by omega
  have h2:(xx d[j/2])[j%2]? =some ((xx d[j/2])[j%2]'(by simp[xx];omega)):=gE _
  have h3:=xg (c:=xx) (sz:=2) (fun _=>rfl) (xs:=d.toList) (j:=j/2) (a:=d[j/2]) (by simp[h1]) (j%2) _ h2
  rw[← e1]at h3
  rw[h3,Array.getElem?_toList,Array.getElem?_eq_getElem (by simpa using hj)]
  have h4:=get_flatK xx 2 d j hj
  rw[getElem!_pos (flatK xx 2 d) j (by simpa using hj)]at h4
  rw[h4,getElem!_pos d (j/2) h1,getElem!_pos (xx d[j/2]) (j%2) (by simp[xx];omega)]
 ·rw[List.getElem?_eq_none (by simpa using hj),List.getElem?_eq_none]
  have:∀l:List LbE,(l.flatMap xx).length=l.length*2:=fun l=>by
   induction l with
   |nil=>rfl
   |cons a r ih=>rw[List.flatMap_cons,lA,ih];simp[xx];omega
  rw[this];simpa using hj
theorem YP (F cur:Array Value) (h:F.size≤cur.size):(putCells id 0 F cur).toList.take F.size=F.toList:=by
 apply List.ext_getElem?
 intro j
 by_cases hj:j<F.size
 ·rw[List.getElem?_take_of_lt hj,Array.getElem?_toList]
  simp[putCells,hj,show j<cur.size by omega]
 ·rw[List.getElem?_take_eq_none ox,List.getElem?_eq_none (by simpa using hj)]
theorem qfB {b:Nat} {cs ex:List Value} {xs:List LbE} (hb:Blk w b T cs) (he:cs=xs.flatMap xx++ex):HoldsK xx 2 w b 0 xs.toArray:=by
 intro j hj
 refine ⟨?_,?_⟩
 ·rw[Nat.zero_add,hb.cell,he]
  have h1:(flatK xx 2 xs.toArray).toList=xs.flatMap xx:=by rw[Xu]
  rw[← h1,aq (by simpa using hj),Array.getElem?_toList,Array.getElem?_eq_getElem hj,getElem!_pos (flatK xx 2 xs.toArray) j hj]
  rfl
 ·have h1:w.heap[b]? =some (.cells cs.toArray T (0,0)):=hb
  simp[World.frozen?,h1]
theorem qbq {g:Nat} {os:Array Obj} {cur:Array Value} {e:TypeId} {fr:Nat×Nat} (d:Array LbE) (hb:w.heap[g]? =some (.cells cur e fr)):
  (sortWorldK xx 2 w g 0 n d os).heap[g]? =some (.cells (putCells id 0 (flatK xx 2 d) cur) e fr):=by
 have hg:g<w.heap.size:=(Array.getElem?_eq_some_iff.1 hb).1
 unfold sortWorldK
 rw[heap_grow_old _ _ (by simpa[putRowK]using hg)]
 simp[putRowK,putRow,mapBlock,Sort.ahead,Array.getElem?_modify,hb,onCells]
theorem ZK {g:Nat} {os:Array Obj} (d:Array LbE):jv [g] w (sortWorldK xx 2 w g 0 n d os):=by
 refine ⟨rfl,rfl,rfl,by simp[sortWorldK,grow,putRowK,putRow,mapBlock,Sort.ahead],fun k o hk hne=>?_⟩
 have hlt:=(Array.getElem?_eq_some_iff.1 hk).1
 unfold sortWorldK
 rw[heap_grow_old _ _ (by simpa[putRowK]using hlt)]
 have:g≠k:=fun e=>hne (by rw[e];simp)
 simp[putRowK,putRow,mapBlock,Sort.ahead,Array.getElem?_modify,this,hk]
theorem qfm {x y:ByteArray} (h:ltB y x=false) (hne:x≠y):ltB x y=true:=by
 rw[XP]at*
 simp only[decide_eq_false_iff_not,List.not_lt,decide_eq_true_eq]at*
 rcases List.le_iff_lt_or_eq.1 h with h|h
 ·exact h
 ·exact absurd (show ByteArray.mk x.data=ByteArray.mk y.data by rw[Array.toList_inj.1 h]) hne
theorem qeb {ρ:Ren} (L:SlLaysF0.n6 Tryz.prog ρ) {g:Nat} (aE:∀w,(isAgg (ρ.t 24)).run Tryz.prog w=.ok true w) (zE:∀w,(Go.sizeOf (ρ.t 24)).run Tryz.prog w=.ok 2 w) (eg:∀args w,(callFunc g args).run Tryz.prog w=.ok (.enter g args) w)
  (hcmp:∀(x y:LbE) (W:World),Calls Tryz.prog g #[.agg (xx x).toArray,.agg (xx y).toArray] W fun e w'=>e=.returned (.int .i64 (qid x y))∧∃k os',w'=grow (W.drewN k) os')
  (w:World) (y:Ent) (p:Option Addr) (l c:Nat) (xs:List LbE) (hO:Own T 2 y p l c (xs.flatMap xx)) (hb:y.on=true→Blk w y.b T y.cs) (hn:(xs.map (·.1)).Nodup) (hl:l≤1000000):
  Calls Tryz.prog (ρ.f 6) #[.slice p l c,.func (.func g) #[] #[]] w (Ret fun _ w'=>∃ys:List LbE,ys.Perm xs∧(ys.map (·.1)).Pairwise (fun a b=>ltB a b=true)∧((w'=w∧Own T 2 y p l c (ys.flatMap xx))∨y.on=true∧∃cs',Own T 2 { y with cs:=cs' } p l c (ys.flatMap xx)∧Blk w' y.b T cs'∧jv [y.b] w w')):=by
 have hfl:∀q:List LbE,(q.flatMap xx).length=q.length*2:=fun q=>by
  induction q with
  |nil=>rfl
  |cons a r ih=>rw[List.flatMap_cons,lA,ih];simp[xx];omega
 have hlen:xs.length=l:=by have:=hO.sl.1;rw[hfl]at this;omega
 by_cases h0:l=0
 ·subst h0
  have e1:xs=[]:=List.eq_nil_of_length_eq_zero hlen
  refine (AnyF.slices_SortFunc_none { L with } p c _ w).mono ?_
  rintro e w' ⟨rfl,rfl⟩
  exact ⟨[],by rw[e1],by simp,.inl ⟨rfl,by rw[e1]at hO;exact hO⟩⟩
 obtain ⟨hon,hpp⟩:=hO.pos ox
 subst hpp
 have hb:=hb hon
 obtain ⟨h1,h2,h3⟩:=hO.sl
 rcases h3 with ⟨-, -,⟨ex,h4⟩,h5⟩|⟨h3, -⟩
 case inr=>rw[hon]at h3;cases h3
 have hH:=qfB hb h4
 have hc:=AnyQ.slices_SortFunc L 2 aE zE xx (fun _=>rfl) (fun x v hv=>by simp[xx]at hv;rcases hv with rfl|rfl<;>rfl) qid swoL g #[] y.b 0 c xs.toArray w eg (fun m os dk _ a b=>hcmp a b _) hH hb.lt (by simp;omega)
 have hsz:xs.toArray.size=l:=by simpa using hlen
 rw[hsz]at hc
 refine hc.mono ?_
 rintro e w' ⟨rfl,d,n,os,hp,hs,rfl⟩
 have hds:d.size=l:=by rw[hp.1];exact hsz
 have hperm:d.toList.Perm xs:=by
  have h6:=hp.2.2
  rw[← hsz]at h6
  rw[Array.extract_size]at h6
  rw[hsz, ← hds,Array.extract_size]at h6
  exact h6
 have hpw:(d.toList.map (·.1)).Pairwise (fun a b=>ltB a b=true):=by
  rw[List.pairwise_iff_getElem]
  intro i j hi hj hij
  have hi':i<d.size:=by simpa using hi
  have hj':j<d.size:=by simpa using hj
  have h7:=hs i j (Nat.zero_le _) hij ox
  rw[ltL,getElem!_pos d i hi',getElem!_pos d j hj']at h7
  have hnd:(d.toList.map (·.1)).Nodup:=(hperm.map _).nodup_iff.2 hn
  simp only[List.getElem_map,Array.getElem_toList]
  refine qfm h7 fun e=>?_
  have:=zN hnd hi hj (by simpa using e)
  omega
 have hb':w.heap[y.b]? =some (.cells y.cs.toArray T (0,0)):=hb
 have hhs:=qbq (n:=n) (os:=os) d hb'
 have hcl:l*2≤y.cs.length:=by rw[h4,lA,h1];omega
 have htk:=YP (flatK xx 2 d) y.cs.toArray (by simp[hds];exact hcl)
 rw[Xu,size_flatK,hds]at htk
 refine ⟨d.toList,hperm,hpw,.inr ⟨hon,(putCells id 0 (flatK xx 2 d) y.cs.toArray).toList,⟨hO.hT,hO.hw,hO.ho,?_⟩,by simpa[Blk]using hhs,ZK d⟩⟩
 refine ⟨by rw[hfl];simp[hds],h2,.inl ⟨hon,rfl,⟨(putCells id 0 (flatK xx 2 d) y.cs.toArray).toList.drop (l*2),?_⟩,?_⟩⟩
 ·rw[← htk,List.take_append_drop]
 ·have:(putCells id 0 (flatK xx 2 d) y.cs.toArray).size=y.cs.length:=by simp[putCells]
  simp only[Array.length_toList,this];exact h5
end Go.Proofs
