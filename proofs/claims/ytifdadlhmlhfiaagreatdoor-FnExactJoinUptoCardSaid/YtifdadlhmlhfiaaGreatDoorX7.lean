/-
  For every profile whose reading is of bulk at most 1048576: the law FnExactJoin returns true, and the argument and the variables that its row names read as they did; and its card. Conditions: none.
-/
import Derived.Test.YtifdadlhmlhfiaaGreatDoorX6
import Derived.Laws.StructEq
import Derived.Test.YtifdadlhmlhfiaaGreatDoorCards
import Derived.Test.YtifdadlhmlhfiaaGreatDoorTie
import Derived.WalkKit
import Derived.ProofKit
import Derived.OpenShut
import Derived.OpenVars
import Derived.Deep.DeepHandedRow
import Derived.Lib.LaidTab
namespace Go.Fw
open Go
variable {a:Act} {t t':Nat} {x:Operand} {w:World}
section
variable {P:Program} {n:Nat} {e:Env} {d ty:Nat} {pos:String} {af:Array Edge}
theorem qba {y:Operand} {xs:Array Value} (he:∀w,(Op.equalIn 10000 t (.agg xs) (.agg xs)).run P w=.ok true w) (hm:P.eqGuardType P.depth t=false) (hx:ev e x=some (.agg xs)) (hy:ev e y=some (.agg xs)) (ha:Sat n e a):
  (execOp a.eval ⟨some d,.binOp .neq t x y t',ty,pos,af,none⟩).run P w=.ok (.value (.bool false)) w:=by
 have h:(binOp .neq t (.agg xs) (.agg xs)).run P w=.ok (.bool false) w:=by
  simp only[binOp]
  simp[Op.equal,Op.maxDepth,he w]
 simp only[execOp,ha.ev hx,ha.ev hy]
 simp[run_eqGuard_agg (hm:=hm),h]
theorem qle {y:Operand} {xs:Array Value} (he:∀w,(Op.equalIn 10000 t (.agg xs) (.agg xs)).run P w=.ok true w) (hm:P.eqGuardType P.depth t=false) (hx:ev e x=some (.agg xs)) (hy:ev e y=some (.agg xs)) (ha:Sat n e a):
  (execOp a.eval ⟨some d,.binOp .eql t x y t',ty,pos,af,none⟩).run P w=.ok (.value (.bool true)) w:=by
 have h:(binOp .eql t (.agg xs) (.agg xs)).run P w=.ok (.bool true) w:=by
  simp only[binOp]
  simp[Op.equal,Op.maxDepth,he w]
 simp only[execOp,ha.ev hx,ha.ev hy]
 simp[run_eqGuard_agg (hm:=hm),h]
end
end Go.Fw
namespace Go.Proofs.YtifdadlhmlhfiaaGreatDoor
open Go Go.Fw Go.Proofs Go.Proofs.Tryz
theorem qjN:Tryz.prog.eqGuardType Tryz.prog.depth tTy=false:=by kernel_rfl
theorem shTy:Tryz.prog.stoodInHeld tTy=false:=by kernel_rfl
theorem eqTy (a b:ByteArray) (w:World):(Op.equalIn 10000 tTy (.agg #[.string a,.string b]) (.agg #[.string a,.string b])).run Tryz.prog w=.ok true w:=by
 have h1:Tryz.prog.underlying tTy=some (.struct (Tryz.prog.fieldsOf tTy)):=by simp[Program.fieldsOf,qgo]
 have h2:=run_equalIn_agg (P:=Tryz.prog) w 9999 tTy #[.string a,.string b] #[.string a,.string b] h1 shTy
 simp only[Nat.reduceAdd]at h2
 rw[h2]
 have hs:=fun (a:ByteArray) (w:World)=>run_equalIn_string (P:=Tryz.prog) w 9998 9 a a ud9
 simp only[Nat.reduceAdd]at hs
 simp[Program.fieldsOf,qgo,Op.eqFields,part,ag9,hs]
theorem egMp:Tryz.prog.eqGuardType Tryz.prog.depth tMp=false:=by kernel_rfl
theorem shMp:Tryz.prog.stoodInHeld tMp=false:=by kernel_rfl
theorem eqMp (a b c d:Int) (e f:ByteArray) (g h i j:Bool) (w:World):(Op.equalIn 10000 tMp (.agg #[.int .u64 a,.int .u64 b,.int .u64 c,.int .u64 d,.string e,.string f,.bool g,.bool h,.bool i,.bool j]) (.agg #[.int .u64 a,.int .u64 b,.int .u64 c,.int .u64 d,.string e,.string f,.bool g,.bool h,.bool i,.bool j])).run Tryz.prog w=.ok true w:=by
 have h1:Tryz.prog.underlying tMp=some (.struct (Tryz.prog.fieldsOf tMp)):=by simp[Program.fieldsOf,qkI]
 have h2:=run_equalIn_agg (P:=Tryz.prog) w 9999 tMp #[.int .u64 a,.int .u64 b,.int .u64 c,.int .u64 d,.string e,.string f,.bool g,.bool h,.bool i,.bool j] #[.int .u64 a,.int .u64 b,.int .u64 c,.int .u64 d,.string e,.string f,.bool g,.bool h,.bool i,.bool j] h1 shMp
 simp only[Nat.reduceAdd]at h2
 rw[h2]
 have hs:=fun (a:ByteArray) (w:World)=>run_equalIn_string (P:=Tryz.prog) w 9998 9 a a ud9
 have huint64:=fun (a:Int) (w:World)=>run_equalIn_int (P:=Tryz.prog) w 9998 71 .u64 .u64 a a qaP
 have hb:=fun (a:Bool) (w:World)=>run_equalIn_bool (P:=Tryz.prog) (w:=w) 9998 4 a a ud4
 simp only[Nat.reduceAdd]at hs huint64 hb
 simp[Program.fieldsOf,qkI,Op.eqFields,part,ag9,vy,ag4,hs,huint64,hb]
theorem egFn:Tryz.prog.eqGuardType Tryz.prog.depth tFn=false:=by kernel_rfl
theorem shFn:Tryz.prog.stoodInHeld tFn=false:=by kernel_rfl
theorem eqFn (a:Int) (b c d:ByteArray) (e:Int) (w:World):(Op.equalIn 10000 tFn (.agg #[.int .u64 a,.string b,.string c,.string d,.int .i64 e]) (.agg #[.int .u64 a,.string b,.string c,.string d,.int .i64 e])).run Tryz.prog w=.ok true w:=by
 have h1:Tryz.prog.underlying tFn=some (.struct (Tryz.prog.fieldsOf tFn)):=by simp[Program.fieldsOf,qkH]
 have h2:=run_equalIn_agg (P:=Tryz.prog) w 9999 tFn #[.int .u64 a,.string b,.string c,.string d,.int .i64 e] #[.int .u64 a,.string b,.string c,.string d,.int .i64 e] h1 shFn
 simp only[Nat.reduceAdd]at h2
 rw[h2]
 have hs:=fun (a:ByteArray) (w:World)=>run_equalIn_string (P:=Tryz.prog) w 9998 9 a a ud9
 have huint64:=fun (a:Int) (w:World)=>run_equalIn_int (P:=Tryz.prog) w 9998 71 .u64 .u64 a a qaP
 have hint64:=fun (a:Int) (w:World)=>run_equalIn_int (P:=Tryz.prog) w 9998 2 .i64 .i64 a a ud2
 simp only[Nat.reduceAdd]at hs huint64 hint64
 simp[Program.fieldsOf,qkH,Op.eqFields,part,ag9,vy,ag2,hs,huint64,hint64]
theorem egLn:Tryz.prog.eqGuardType Tryz.prog.depth tLn=false:=by kernel_rfl
theorem shLn:Tryz.prog.stoodInHeld tLn=false:=by kernel_rfl
theorem eqLn (a b:Int) (w:World):(Op.equalIn 10000 tLn (.agg #[.int .i64 a,.int .i64 b]) (.agg #[.int .i64 a,.int .i64 b])).run Tryz.prog w=.ok true w:=by
 have h1:Tryz.prog.underlying tLn=some (.struct (Tryz.prog.fieldsOf tLn)):=by simp[Program.fieldsOf,qgp]
 have h2:=run_equalIn_agg (P:=Tryz.prog) w 9999 tLn #[.int .i64 a,.int .i64 b] #[.int .i64 a,.int .i64 b] h1 shLn
 simp only[Nat.reduceAdd]at h2
 rw[h2]
 have hint:=fun (a:Int) (w:World)=>run_equalIn_int (P:=Tryz.prog) w 9998 3 .i64 .i64 a a ud3
 have hint64:=fun (a:Int) (w:World)=>run_equalIn_int (P:=Tryz.prog) w 9998 2 .i64 .i64 a a ud2
 simp only[Nat.reduceAdd]at hint hint64
 simp[Program.fieldsOf,qgp,Op.eqFields,part,ag3,ag2,hint,hint64]
theorem qkO (w:World) (v u:Value) (xs:List xn) (hv:Lay xz 2 w v xs) (hu:Lay xz 2 w u xs):Calls Tryz.prog 38 #[v,u] w (Ret fun r w'=>r=.bool true∧Fr 0 [] w w'):=by
 obtain ⟨p,c,rfl,hl,hx⟩:=hv.open
 obtain ⟨q,c2,rfl, -,hy⟩:=hu.open
 refine jr (args:=[_,_]) [(0,_),(1,_)] 0 [] [] Tryz.func38 rfl Tryz.ntmps38 rfl rfl .nil ?_
 refine sQ fun K1=>jb (jA (k:=K1 (sQ fun K2=>sQ fun K3=>jb (jM (k:=jE KI (k:=jM (k:=jE KI (k:=?_))))))))
 refine jn rfl (fun _ _ h=>yQ rfl rfl h) ?_
 refine jV (u:=.bool false) (congrArg Value.bool zp) ?_
 refine K3 (jO rfl (jg (K2 (sQ fun K4=>sQ fun K5=>jb (jM (k:=jE KI (k:=jM (k:=K5 (jh ?_)))))))))
 refine jZ (σ:=Nat) (fun k=>[(0,.slice p xs.length c),(1,.slice q xs.length c2),(12,.int .i64 (xs.length:Nat)),(13,.int .i64 (k:Nat))]) (fun _=>[]) (fun k _=>k≤xs.length) (fun k=>xs.length - k) 0 sR (fun w hH hf=>⟨.nil,Nat.zero_le _⟩) ?_
 rintro k w1 hk hf1 hH1 KL hKL
 refine C.begin _ [] hf1 .nil ?_
 try dsimp only
 refine sQ fun K6=>jb (jS (k:=K6 (sQ fun K7=>?_)))
 refine jq rfl (fun h14=>?_) (fun h14=>?_)
 ·have hk':k<xs.length:=by omega
  obtain ⟨b,o,cs,rfl, -,hR,hcell⟩:=hx k xs[k] (gE hk')
  obtain ⟨b2,o2,cs2,rfl, -,hR2,hcell2⟩:=hy k xs[k] (gE hk')
  unfold xz at hR hR2
  subst hR;subst hR2
  refine jg (K7 (sQ fun K8=>jh (sQ fun K9=>jb (jM (k:=jA (k:=K9 (sQ fun K10=>?_)))))))
  refine jC 9 (lts [0,1,2,3,4,5,6,7,8]) [] rfl (by kernel_rfl) (by kernel_rfl) (dM [] (k:=dM [] (k:=?_)))
  refine jo rfl rfl (jd [] rfl) (fun _ _ h=>vH KI zq rfl rfl ox h) (vV rfl rfl (jd [] rfl) (fun a w ha hS=>kD XB zq rfl rfl (hcell w (hS.2.keepAll (.inr rfl))) ha) (dM [] (k:=dM [] (k:=?_))))
  refine jo rfl rfl (jd [] rfl) (fun _ _ h=>vH KI zq rfl rfl ox h) (vV rfl rfl (jd [] rfl) (fun a w ha hS=>kD XB zq rfl rfl (hcell2 w (hS.2.keepAll (.inr rfl))) ha) (jo rfl rfl (jd [] rfl) (fun _ _ h=>qba (eqTy _ _) qjN rfl rfl h) (K10 (CJ.t [(0,_),(1,_),(12,_),(13,_),(24,_)] (k:=?_)))))
  refine jO rfl (jg (K8 (jb (jI (k:=jM (k:=jw (ji ?_)))))))
  exact fun w' hH hf=>hKL (k+1) _ w' hk' hf .nil ox sR
 ·refine jt (K4 (sQ fun K11=>jb (jA (k:=K11 (jj ?_)))))
  exact je Tryz.results38 rfl fun w' hH hf=>⟨rfl,hf⟩
theorem qkP (w:World) (v u:Value) (xs:List qK) (hv:Lay xm 10 w v xs) (hu:Lay xm 10 w u xs):Calls Tryz.prog 41 #[v,u] w (Ret fun r w'=>r=.bool true∧Fr 0 [] w w'):=by
 obtain ⟨p,c,rfl,hl,hx⟩:=hv.open
 obtain ⟨q,c2,rfl, -,hy⟩:=hu.open
 refine jr (args:=[_,_]) [(0,_),(1,_)] 0 [] [] Tryz.func41 rfl Tryz.ntmps41 rfl rfl .nil ?_
 refine sQ fun K1=>jb (jA (k:=K1 (sQ fun K2=>sQ fun K3=>jb (jM (k:=jE JH (k:=jM (k:=jE JH (k:=?_))))))))
 refine jn rfl (fun _ _ h=>yQ rfl rfl h) ?_
 refine jV (u:=.bool false) (congrArg Value.bool zp) ?_
 refine K3 (jO rfl (jg (K2 (sQ fun K4=>sQ fun K5=>jb (jM (k:=jE JH (k:=jM (k:=K5 (jh ?_)))))))))
 refine jZ (σ:=Nat) (fun k=>[(0,.slice p xs.length c),(1,.slice q xs.length c2),(12,.int .i64 (xs.length:Nat)),(13,.int .i64 (k:Nat))]) (fun _=>[]) (fun k _=>k≤xs.length) (fun k=>xs.length - k) 0 sR (fun w hH hf=>⟨.nil,Nat.zero_le _⟩) ?_
 rintro k w1 hk hf1 hH1 KL hKL
 refine C.begin _ [] hf1 .nil ?_
 try dsimp only
 refine sQ fun K6=>jb (jS (k:=K6 (sQ fun K7=>?_)))
 refine jq rfl (fun h14=>?_) (fun h14=>?_)
 ·have hk':k<xs.length:=by omega
  obtain ⟨b,o,cs,rfl, -,hR,hcell⟩:=hx k xs[k] (gE hk')
  obtain ⟨b2,o2,cs2,rfl, -,hR2,hcell2⟩:=hy k xs[k] (gE hk')
  obtain ⟨rfl, -⟩:=hR
  obtain ⟨rfl, -⟩:=hR2
  refine jg (K7 (sQ fun K8=>jh (sQ fun K9=>jb (jM (k:=jA (k:=K9 (sQ fun K10=>?_)))))))
  refine jC 9 (lts [0,1,2,3,4,5,6,7,8]) [] rfl (by kernel_rfl) (by kernel_rfl) (dM [] (k:=dM [] (k:=?_)))
  refine jo rfl rfl (jd [] rfl) (fun _ _ h=>vH JH Ky rfl rfl ox h) (vV rfl rfl (jd [] rfl) (fun a w ha hS=>kD qcU Ky rfl rfl (hcell w (hS.2.keepAll (.inr rfl))) ha) (dM [] (k:=dM [] (k:=?_))))
  refine jo rfl rfl (jd [] rfl) (fun _ _ h=>vH JH Ky rfl rfl ox h) (vV rfl rfl (jd [] rfl) (fun a w ha hS=>kD qcU Ky rfl rfl (hcell2 w (hS.2.keepAll (.inr rfl))) ha) (jo rfl rfl (jd [] rfl) (fun _ _ h=>qba (eqMp _ _ _ _ _ _ _ _ _ _) egMp rfl rfl h) (K10 (CJ.t [(0,_),(1,_),(12,_),(13,_),(24,_)] (k:=?_)))))
  refine jO rfl (jg (K8 (jb (jI (k:=jM (k:=jw (ji ?_)))))))
  exact fun w' hH hf=>hKL (k+1) _ w' hk' hf .nil ox sR
 ·refine jt (K4 (sQ fun K11=>jb (jA (k:=K11 (jj ?_)))))
  exact je Tryz.results41 rfl fun w' hH hf=>⟨rfl,hf⟩
theorem qkS (w:World) (v u:Value) (xs:List yl) (hv:Lay JE 5 w v xs) (hu:Lay JE 5 w u xs):Calls Tryz.prog 44 #[v,u] w (Ret fun r w'=>r=.bool true∧Fr 0 [] w w'):=by
 obtain ⟨p,c,rfl,hl,hx⟩:=hv.open
 obtain ⟨q,c2,rfl, -,hy⟩:=hu.open
 refine jr (args:=[_,_]) [(0,_),(1,_)] 0 [] [] Tryz.func44 rfl Tryz.ntmps44 rfl rfl .nil ?_
 refine sQ fun K1=>jb (jA (k:=K1 (sQ fun K2=>sQ fun K3=>jb (jM (k:=jE JF (k:=jM (k:=jE JF (k:=?_))))))))
 refine jn rfl (fun _ _ h=>yQ rfl rfl h) ?_
 refine jV (u:=.bool false) (congrArg Value.bool zp) ?_
 refine K3 (jO rfl (jg (K2 (sQ fun K4=>sQ fun K5=>jb (jM (k:=jE JF (k:=jM (k:=K5 (jh ?_)))))))))
 refine jZ (σ:=Nat) (fun k=>[(0,.slice p xs.length c),(1,.slice q xs.length c2),(12,.int .i64 (xs.length:Nat)),(13,.int .i64 (k:Nat))]) (fun _=>[]) (fun k _=>k≤xs.length) (fun k=>xs.length - k) 0 sR (fun w hH hf=>⟨.nil,Nat.zero_le _⟩) ?_
 rintro k w1 hk hf1 hH1 KL hKL
 refine C.begin _ [] hf1 .nil ?_
 try dsimp only
 refine sQ fun K6=>jb (jS (k:=K6 (sQ fun K7=>?_)))
 refine jq rfl (fun h14=>?_) (fun h14=>?_)
 ·have hk':k<xs.length:=by omega
  obtain ⟨b,o,cs,rfl, -,hR,hcell⟩:=hx k xs[k] (gE hk')
  obtain ⟨b2,o2,cs2,rfl, -,hR2,hcell2⟩:=hy k xs[k] (gE hk')
  obtain ⟨rfl, -⟩:=hR
  obtain ⟨rfl, -⟩:=hR2
  refine jg (K7 (sQ fun K8=>jh (sQ fun K9=>jb (jM (k:=jA (k:=K9 (sQ fun K10=>?_)))))))
  refine jC 9 (lts [0,1,2,3,4,5,6,7,8]) [] rfl (by kernel_rfl) (by kernel_rfl) (dM [] (k:=dM [] (k:=?_)))
  refine jo rfl rfl (jd [] rfl) (fun _ _ h=>vH JF Kx rfl rfl ox h) (vV rfl rfl (jd [] rfl) (fun a w ha hS=>kD qcT Kx rfl rfl (hcell w (hS.2.keepAll (.inr rfl))) ha) (dM [] (k:=dM [] (k:=?_))))
  refine jo rfl rfl (jd [] rfl) (fun _ _ h=>vH JF Kx rfl rfl ox h) (vV rfl rfl (jd [] rfl) (fun a w ha hS=>kD qcT Kx rfl rfl (hcell2 w (hS.2.keepAll (.inr rfl))) ha) (jo rfl rfl (jd [] rfl) (fun _ _ h=>qba (eqFn _ _ _ _ _) egFn rfl rfl h) (K10 (CJ.t [(0,_),(1,_),(12,_),(13,_),(24,_)] (k:=?_)))))
  refine jO rfl (jg (K8 (jb (jI (k:=jM (k:=jw (ji ?_)))))))
  exact fun w' hH hf=>hKL (k+1) _ w' hk' hf .nil ox sR
 ·refine jt (K4 (sQ fun K11=>jb (jA (k:=K11 (jj ?_)))))
  exact je Tryz.results44 rfl fun w' hH hf=>⟨rfl,hf⟩
theorem qkQ (w:World) (v u:Value) (xs:List vz) (hv:Lay JD 2 w v xs) (hu:Lay JD 2 w u xs):Calls Tryz.prog 83 #[v,u] w (Ret fun r w'=>r=.bool true∧Fr 0 [] w w'):=by
 obtain ⟨p,c,rfl,hl,hx⟩:=hv.open
 obtain ⟨q,c2,rfl, -,hy⟩:=hu.open
 refine jr (args:=[_,_]) [(0,_),(1,_)] 0 [] [] Tryz.func83 rfl Tryz.ntmps83 rfl rfl .nil ?_
 refine sQ fun K1=>jb (jA (k:=K1 (sQ fun K2=>sQ fun K3=>jb (jM (k:=jE Kz (k:=jM (k:=jE Kz (k:=?_))))))))
 refine jn rfl (fun _ _ h=>yQ rfl rfl h) ?_
 refine jV (u:=.bool false) (congrArg Value.bool zp) ?_
 refine K3 (jO rfl (jg (K2 (sQ fun K4=>sQ fun K5=>jb (jM (k:=jE Kz (k:=jM (k:=K5 (jh ?_)))))))))
 refine jZ (σ:=Nat) (fun k=>[(0,.slice p xs.length c),(1,.slice q xs.length c2),(12,.int .i64 (xs.length:Nat)),(13,.int .i64 (k:Nat))]) (fun _=>[]) (fun k _=>k≤xs.length) (fun k=>xs.length - k) 0 sR (fun w hH hf=>⟨.nil,Nat.zero_le _⟩) ?_
 rintro k w1 hk hf1 hH1 KL hKL
 refine C.begin _ [] hf1 .nil ?_
 try dsimp only
 refine sQ fun K6=>jb (jS (k:=K6 (sQ fun K7=>?_)))
 refine jq rfl (fun h14=>?_) (fun h14=>?_)
 ·have hk':k<xs.length:=by omega
  obtain ⟨b,o,cs,rfl, -,hR,hcell⟩:=hx k xs[k] (gE hk')
  obtain ⟨b2,o2,cs2,rfl, -,hR2,hcell2⟩:=hy k xs[k] (gE hk')
  obtain ⟨rfl, -⟩:=hR
  obtain ⟨rfl, -⟩:=hR2
  refine jg (K7 (sQ fun K8=>jh (sQ fun K9=>jb (jM (k:=jA (k:=K9 (sQ fun K10=>?_)))))))
  refine jC 9 (lts [0,1,2,3,4,5,6,7,8]) [] rfl (by kernel_rfl) (by kernel_rfl) (dM [] (k:=dM [] (k:=?_)))
  refine jo rfl rfl (jd [] rfl) (fun _ _ h=>vH Kz zU rfl rfl ox h) (vV rfl rfl (jd [] rfl) (fun a w ha hS=>kD qcW zU rfl rfl (hcell w (hS.2.keepAll (.inr rfl))) ha) (dM [] (k:=dM [] (k:=?_))))
  refine jo rfl rfl (jd [] rfl) (fun _ _ h=>vH Kz zU rfl rfl ox h) (vV rfl rfl (jd [] rfl) (fun a w ha hS=>kD qcW zU rfl rfl (hcell2 w (hS.2.keepAll (.inr rfl))) ha) (jo rfl rfl (jd [] rfl) (fun _ _ h=>qba (eqLn _ _) egLn rfl rfl h) (K10 (CJ.t [(0,_),(1,_),(12,_),(13,_),(24,_)] (k:=?_)))))
  refine jO rfl (jg (K8 (jb (jI (k:=jM (k:=jw (ji ?_)))))))
  exact fun w' hH hf=>hKL (k+1) _ w' hk' hf .nil ox sR
 ·refine jt (K4 (sQ fun K11=>jb (jA (k:=K11 (jj ?_)))))
  exact je Tryz.results83 rfl fun w' hH hf=>⟨rfl,hf⟩
theorem qgA (w:World) (v u:Value) (xs:List ByteArray) (hv:Lay xa 1 w v xs) (hu:Lay xa 1 w u xs):Calls Tryz.prog 45 #[v,u] w (Ret fun r w'=>r=.bool true∧Fr 0 [] w w'):=by
 obtain ⟨p,c,rfl,hl,hx⟩:=hv.open
 obtain ⟨q,c2,rfl, -,hy⟩:=hu.open
 refine jr (args:=[_,_]) [(0,_),(1,_)] 0 [] [] Tryz.func45 rfl Tryz.ntmps45 rfl rfl .nil ?_
 refine sQ fun K1=>jb (jA (k:=K1 (sQ fun K2=>sQ fun K3=>jb (jM (k:=jE vG (k:=jM (k:=jE vG (k:=?_))))))))
 refine jn rfl (fun _ _ h=>yQ rfl rfl h) ?_
 refine jV (u:=.bool false) (congrArg Value.bool zp) ?_
 refine K3 (jO rfl (jg (K2 (sQ fun K4=>sQ fun K5=>jb (jM (k:=jE vG (k:=jM (k:=K5 (jh ?_)))))))))
 refine jZ (σ:=Nat) (fun k=>[(0,.slice p xs.length c),(1,.slice q xs.length c2),(12,.int .i64 (xs.length:Nat)),(13,.int .i64 (k:Nat))]) (fun _=>[]) (fun k _=>k≤xs.length) (fun k=>xs.length - k) 0 sR (fun w hH hf=>⟨.nil,Nat.zero_le _⟩) ?_
 rintro k w1 hk hf1 hH1 KL hKL
 refine C.begin _ [] hf1 .nil ?_
 try dsimp only
 refine sQ fun K6=>jb (jS (k:=K6 (sQ fun K7=>?_)))
 refine jq rfl (fun h14=>?_) (fun h14=>?_)
 ·have hk':k<xs.length:=by omega
  obtain ⟨b,o,cs,rfl, -,hR,hcell⟩:=hx k xs[k] (gE hk')
  obtain ⟨b2,o2,cs2,rfl, -,hR2,hcell2⟩:=hy k xs[k] (gE hk')
  unfold xa at hR hR2
  subst hR;subst hR2
  refine jg (K7 (sQ fun K8=>jh (sQ fun K9=>jb (jM (k:=jA (k:=K9 (sQ fun K10=>?_)))))))
  refine jC 9 (lts [0,1,2,3,4,5,6,7,8]) [] rfl (by kernel_rfl) (by kernel_rfl) (dM [] (k:=dM [] (k:=?_)))
  refine jo rfl rfl (jd [] rfl) (fun _ _ h=>vH vG so9 rfl rfl ox h) (vV rfl rfl (jd [] rfl) (fun a w ha hS=>kP ag9 rfl (hcell w (hS.2.keepAll (.inr rfl)) 0 _ rfl) ha) (dM [] (k:=dM [] (k:=?_))))
  refine jo rfl rfl (jd [] rfl) (fun _ _ h=>vH vG so9 rfl rfl ox h) (vV rfl rfl (jd [] rfl) (fun a w ha hS=>kP ag9 rfl (hcell2 w (hS.2.keepAll (.inr rfl)) 0 _ rfl) ha) (jo rfl rfl (jd [] rfl) (fun _ _ h=>qgJ rfl rfl h) ?_))
  refine zi (u:=.bool false) (congrArg Value.bool zp) ?_
  refine K10 (CJ.t [(0,_),(1,_),(12,_),(13,_),(24,_)] (k:=?_))
  refine jO rfl (jg (K8 (jb (jI (k:=jM (k:=jw (ji ?_)))))))
  exact fun w' hH hf=>hKL (k+1) _ w' hk' hf .nil ox sR
 ·refine jt (K4 (sQ fun K11=>jb (jA (k:=K11 (jj ?_)))))
  exact je Tryz.results45 rfl fun w' hH hf=>⟨rfl,hf⟩
theorem qkR (w:World) (v u:Value) (xs:List Int) (hv:Lay (vu .i64) 1 w v xs) (hu:Lay (vu .i64) 1 w u xs):Calls Tryz.prog 77 #[v,u] w (Ret fun r w'=>r=.bool true∧Fr 0 [] w w'):=by
 obtain ⟨p,c,rfl,hl,hx⟩:=hv.open
 obtain ⟨q,c2,rfl, -,hy⟩:=hu.open
 refine jr (args:=[_,_]) [(0,_),(1,_)] 0 [] [] Tryz.func77 rfl Tryz.ntmps77 rfl rfl .nil ?_
 refine sQ fun K1=>jb (jA (k:=K1 (sQ fun K2=>sQ fun K3=>jb (jM (k:=jE QC (k:=jM (k:=jE QC (k:=?_))))))))
 refine jn rfl (fun _ _ h=>yQ rfl rfl h) ?_
 refine jV (u:=.bool false) (congrArg Value.bool zp) ?_
 refine K3 (jO rfl (jg (K2 (sQ fun K4=>sQ fun K5=>jb (jM (k:=jE QC (k:=jM (k:=K5 (jh ?_)))))))))
 refine jZ (σ:=Nat) (fun k=>[(0,.slice p xs.length c),(1,.slice q xs.length c2),(12,.int .i64 (xs.length:Nat)),(13,.int .i64 (k:Nat))]) (fun _=>[]) (fun k _=>k≤xs.length) (fun k=>xs.length - k) 0 sR (fun w hH hf=>⟨.nil,Nat.zero_le _⟩) ?_
 rintro k w1 hk hf1 hH1 KL hKL
 refine C.begin _ [] hf1 .nil ?_
 try dsimp only
 refine sQ fun K6=>jb (jS (k:=K6 (sQ fun K7=>?_)))
 refine jq rfl (fun h14=>?_) (fun h14=>?_)
 ·have hk':k<xs.length:=by omega
  obtain ⟨b,o,cs,rfl, -,hR,hcell⟩:=hx k xs[k] (gE hk')
  obtain ⟨b2,o2,cs2,rfl, -,hR2,hcell2⟩:=hy k xs[k] (gE hk')
  obtain ⟨rfl, -⟩:=hR
  obtain ⟨rfl, -⟩:=hR2
  refine jg (K7 (sQ fun K8=>jh (sQ fun K9=>jb (jM (k:=jA (k:=K9 (sQ fun K10=>?_)))))))
  refine jC 9 (lts [0,1,2,3,4,5,6,7,8]) [] rfl (by kernel_rfl) (by kernel_rfl) (dM [] (k:=dM [] (k:=?_)))
  refine jo rfl rfl (jd [] rfl) (fun _ _ h=>vH QC so3 rfl rfl ox h) (vV rfl rfl (jd [] rfl) (fun a w ha hS=>kP ag3 rfl (hcell w (hS.2.keepAll (.inr rfl)) 0 _ rfl) ha) (dM [] (k:=dM [] (k:=?_))))
  refine jo rfl rfl (jd [] rfl) (fun _ _ h=>vH QC so3 rfl rfl ox h) (vV rfl rfl (jd [] rfl) (fun a w ha hS=>kP ag3 rfl (hcell2 w (hS.2.keepAll (.inr rfl)) 0 _ rfl) ha) (jo rfl rfl (jd [] rfl) (fun _ _ h=>yQ rfl rfl h) ?_))
  refine zi (u:=.bool false) (congrArg Value.bool zp) ?_
  refine K10 (CJ.t [(0,_),(1,_),(12,_),(13,_),(24,_)] (k:=?_))
  refine jO rfl (jg (K8 (jb (jI (k:=jM (k:=jw (ji ?_)))))))
  exact fun w' hH hf=>hKL (k+1) _ w' hk' hf .nil ox sR
 ·refine jt (K4 (sQ fun K11=>jb (jA (k:=K11 (jj ?_)))))
  exact je Tryz.results77 rfl fun w' hH hf=>⟨rfl,hf⟩
theorem qgB (w:World) (v u:Value) (xs:List Int) (hv:Lay (vu .i64) 1 w v xs) (hu:Lay (vu .i64) 1 w u xs):Calls Tryz.prog 78 #[v,u] w (Ret fun r w'=>r=.bool true∧Fr 0 [] w w'):=by
 obtain ⟨p,c,rfl,hl,hx⟩:=hv.open
 obtain ⟨q,c2,rfl, -,hy⟩:=hu.open
 refine jr (args:=[_,_]) [(0,_),(1,_)] 0 [] [] Tryz.func78 rfl Tryz.ntmps78 rfl rfl .nil ?_
 refine sQ fun K1=>jb (jA (k:=K1 (sQ fun K2=>sQ fun K3=>jb (jM (k:=jE xI (k:=jM (k:=jE xI (k:=?_))))))))
 refine jn rfl (fun _ _ h=>yQ rfl rfl h) ?_
 refine jV (u:=.bool false) (congrArg Value.bool zp) ?_
 refine K3 (jO rfl (jg (K2 (sQ fun K4=>sQ fun K5=>jb (jM (k:=jE xI (k:=jM (k:=K5 (jh ?_)))))))))
 refine jZ (σ:=Nat) (fun k=>[(0,.slice p xs.length c),(1,.slice q xs.length c2),(12,.int .i64 (xs.length:Nat)),(13,.int .i64 (k:Nat))]) (fun _=>[]) (fun k _=>k≤xs.length) (fun k=>xs.length - k) 0 sR (fun w hH hf=>⟨.nil,Nat.zero_le _⟩) ?_
 rintro k w1 hk hf1 hH1 KL hKL
 refine C.begin _ [] hf1 .nil ?_
 try dsimp only
 refine sQ fun K6=>jb (jS (k:=K6 (sQ fun K7=>?_)))
 refine jq rfl (fun h14=>?_) (fun h14=>?_)
 ·have hk':k<xs.length:=by omega
  obtain ⟨b,o,cs,rfl, -,hR,hcell⟩:=hx k xs[k] (gE hk')
  obtain ⟨b2,o2,cs2,rfl, -,hR2,hcell2⟩:=hy k xs[k] (gE hk')
  obtain ⟨rfl, -⟩:=hR
  obtain ⟨rfl, -⟩:=hR2
  refine jg (K7 (sQ fun K8=>jh (sQ fun K9=>jb (jM (k:=jA (k:=K9 (sQ fun K10=>?_)))))))
  refine jC 9 (lts [0,1,2,3,4,5,6,7,8]) [] rfl (by kernel_rfl) (by kernel_rfl) (dM [] (k:=dM [] (k:=?_)))
  refine jo rfl rfl (jd [] rfl) (fun _ _ h=>vH xI so2 rfl rfl ox h) (vV rfl rfl (jd [] rfl) (fun a w ha hS=>kP ag2 rfl (hcell w (hS.2.keepAll (.inr rfl)) 0 _ rfl) ha) (dM [] (k:=dM [] (k:=?_))))
  refine jo rfl rfl (jd [] rfl) (fun _ _ h=>vH xI so2 rfl rfl ox h) (vV rfl rfl (jd [] rfl) (fun a w ha hS=>kP ag2 rfl (hcell2 w (hS.2.keepAll (.inr rfl)) 0 _ rfl) ha) (jo rfl rfl (jd [] rfl) (fun _ _ h=>yQ rfl rfl h) ?_))
  refine zi (u:=.bool false) (congrArg Value.bool zp) ?_
  refine K10 (CJ.t [(0,_),(1,_),(12,_),(13,_),(24,_)] (k:=?_))
  refine jO rfl (jg (K8 (jb (jI (k:=jM (k:=jw (ji ?_)))))))
  exact fun w' hH hf=>hKL (k+1) _ w' hk' hf .nil ox sR
 ·refine jt (K4 (sQ fun K11=>jb (jA (k:=K11 (jj ?_)))))
  exact je Tryz.results78 rfl fun w' hH hf=>⟨rfl,hf⟩
theorem cl1_c (w:World) (cs ds:List Value) (x:xB) (hR:xA w cs x) (hR2:xA w ds x):Calls Tryz.prog 80 #[.agg cs.toArray,.agg ds.toArray] w (Ret fun r w'=>r=.bool true∧Fr 0 [] w w'):=by
 obtain ⟨l,rfl,h⟩:=hR
 obtain ⟨l2,rfl,h2⟩:=hR2
 obtain ⟨p,c,rfl, -⟩:=h.open
 obtain ⟨p2,c2,rfl, -⟩:=h2.open
 refine jr (args:=[_,_]) [(0,.agg (List.toArray [_,_])),(1,.agg (List.toArray [_,_]))] 0 [] [] Tryz.func80 rfl Tryz.ntmps80 rfl rfl .nil ?_
 refine sQ fun K1=>jb (qA (vs:=[_,_]) rfl rfl fun b2=>qA (vs:=[_,_]) rfl rfl fun b3=>jA (k:=K1 (sQ fun K2=>jb (jF 0 zW so9 (k:=jH 1 ag9 (k:=jF 0 zW so9 (k:=jH 0 ag9 (k:=?_))))))))
 refine jn rfl (fun _ _ h=>Qg rfl rfl h) ?_
 refine jV (u:=.bool true) (congrArg Value.bool zp) ?_
 refine jM (k:=?_)
 refine jy rfl rfl (jF 1 zW xH (k:=?_))
 refine jy rfl rfl (jH 1 yv (k:=?_))
 refine jy rfl rfl (jF 1 zW xH (k:=?_))
 refine jy rfl rfl (jH 0 yv (k:=?_))
 refine jy rfl rfl ?_
 refine kg (φ:=fun r=>r=.bool true) Tryz.call45 rfl rfl (fun w3 hH hf=>qgA w3 _ _ (x.list) (h.keep (xa.keep (hf.keepAll (.inr rfl))) (hf.keepAll (.inr rfl))) (h2.keep (xa.keep (hf.keepAll (.inr rfl))) (hf.keepAll (.inr rfl)))) fun r hr=>?_
 subst hr
 refine jT (k:=jA (k:=K2 (CJ.t [(4,_)] (k:=jj ?_))))
 exact je Tryz.results80 rfl fun w' hH hf=>⟨rfl,hf⟩
theorem cl2_c (w:World) (cs ds:List Value) (x:zf) (hR:yW w cs x) (hR2:yW w ds x):Calls Tryz.prog 82 #[.agg cs.toArray,.agg ds.toArray] w (Ret fun r w'=>r=.bool true∧Fr 0 [] w w'):=by
 obtain ⟨l,rfl,h⟩:=hR
 obtain ⟨l2,rfl,h2⟩:=hR2
 obtain ⟨p,c,rfl, -⟩:=h.open
 obtain ⟨p2,c2,rfl, -⟩:=h2.open
 refine jr (args:=[_,_]) [(0,.agg (List.toArray [_,_])),(1,.agg (List.toArray [_,_]))] 0 [] [] Tryz.func82 rfl Tryz.ntmps82 rfl rfl .nil ?_
 refine sQ fun K1=>jb (qA (vs:=[_,_]) rfl rfl fun b2=>qA (vs:=[_,_]) rfl rfl fun b3=>jA (k:=K1 (sQ fun K2=>jb (jF 0 JC so9 (k:=jH 1 ag9 (k:=jF 0 JC so9 (k:=jH 0 ag9 (k:=?_))))))))
 refine jn rfl (fun _ _ h=>Qg rfl rfl h) ?_
 refine jV (u:=.bool true) (congrArg Value.bool zp) ?_
 refine jM (k:=?_)
 refine jy rfl rfl (jF 1 JC Jt (k:=?_))
 refine jy rfl rfl (jH 1 KC (k:=?_))
 refine jy rfl rfl (jF 1 JC Jt (k:=?_))
 refine jy rfl rfl (jH 0 KC (k:=?_))
 refine jy rfl rfl ?_
 refine kg (φ:=fun r=>r=.bool true) Tryz.call78 rfl rfl (fun w3 hH hf=>qgB w3 _ _ (x.list) (h.keep (vu.keep (hf.keepAll (.inr rfl))) (hf.keepAll (.inr rfl))) (h2.keep (vu.keep (hf.keepAll (.inr rfl))) (hf.keepAll (.inr rfl)))) fun r hr=>?_
 subst hr
 refine jT (k:=jA (k:=K2 (CJ.t [(4,_)] (k:=jj ?_))))
 exact je Tryz.results82 rfl fun w' hH hf=>⟨rfl,hf⟩
theorem qkT (w:World) (v u:Value) (xs:List xB) (hv:Lay xA 2 w v xs) (hu:Lay xA 2 w u xs):Calls Tryz.prog 79 #[v,u,.func (.func 80) #[] #[]] w (Ret fun r w'=>r=.bool true∧Fr 0 [] w w'):=by
 obtain ⟨p,c,rfl,hl,hx⟩:=hv.open
 obtain ⟨q,c2,rfl, -,hy⟩:=hu.open
 refine jr (args:=[_,_,_]) [(0,_),(1,_),(2,_)] 0 [] [] Tryz.func79 rfl Tryz.ntmps79 rfl rfl .nil ?_
 refine sQ fun K1=>jb (jA (k:=K1 (sQ fun K2=>sQ fun K3=>jb (jM (k:=jE VA (k:=jM (k:=jE VA (k:=?_))))))))
 refine jn rfl (fun _ _ h=>yQ rfl rfl h) ?_
 refine jV (u:=.bool false) (congrArg Value.bool zp) ?_
 refine K3 (jO rfl (jg (K2 (sQ fun K4=>sQ fun K5=>jb (jM (k:=jE VA (k:=jM (k:=K5 (jh ?_)))))))))
 refine jZ (σ:=Nat) (fun k=>[(1,.slice q xs.length c2),(2,.func (.func 80) #[] #[]),(15,.slice p xs.length c),(16,.int .i64 (xs.length:Nat)),(17,.int .i64 (k:Nat))]) (fun _=>[]) (fun k _=>k≤xs.length) (fun k=>xs.length - k) 0 sR (fun w hH hf=>⟨.nil,Nat.zero_le _⟩) ?_
 rintro k w1 hk hf1 hH1 KL hKL
 refine C.begin _ [] hf1 .nil ?_
 try dsimp only
 refine sQ fun K6=>jb (jS (k:=K6 (sQ fun K7=>?_)))
 refine jq rfl (fun h18=>?_) (fun h18=>?_)
 ·have hk':k<xs.length:=by omega
  obtain ⟨b,o,cs,rfl, -,hR,hcell⟩:=hx k xs[k] (gE hk')
  obtain ⟨b2,o2,cs2,rfl, -,hR2,hcell2⟩:=hy k xs[k] (gE hk')
  have hRk:=hR
  have hRk2:=hR2
  obtain ⟨l,rfl,h⟩:=hR
  obtain ⟨l2,rfl,h2⟩:=hR2
  obtain ⟨p1,c1,rfl, -⟩:=h.open
  obtain ⟨p2,c3,rfl, -⟩:=h2.open
  refine jg (K7 (sQ fun K8=>jh (sQ fun K9=>jb (jM (k:=jJ VA zl (k:=?_))))))
  refine jp rfl (fun a w ha hH hf=>kD XD zl rfl rfl (hcell w (hf.keepAll (.inr rfl))) ha) (jW (zs:=[(.string ⟨#[]⟩),(.slice none 0 0)]) ZY rfl fun b8=>jA (k:=jB [_,_] [_] 0 zl (k:=K9 (sQ fun K10=>jb (jM (k:=jM (k:=jJ VA zl (k:=?_))))))))
  refine jp rfl (fun a w ha hH hf=>kD XD zl rfl rfl (hcell2 w (hf.keepAll (.inr rfl))) ha) (jW (zs:=[(.string ⟨#[]⟩),(.slice none 0 0)]) ZY rfl fun b9=>jB [_,_] [_,_] 0 zl (k:=K10 (CJ.t [(1,_),(2,_),(8,_),(9,_),(15,_),(16,_),(17,_)] (k:=sQ fun K11=>jb (jM (k:=?_))))))
  refine jp rfl (fun a w ha hH hf=>vo (vs:=[_,_]) 1 rfl rfl XD zl rfl rfl rfl ha hH) (jp rfl (fun a w ha hH hf=>vo (vs:=[_,_]) 0 rfl rfl XD zl rfl rfl rfl ha hH) ?_)
  refine Xq (g:=80) (φ:=fun r=>r=.bool true) Tryz.call80 rfl rfl rfl (fun v' hH hf=>cl1_c v' _ _ xs[k] (xA.keep (hf.keepAll (.inr rfl)) _ _ hRk) (xA.keep (hf.keepAll (.inr rfl)) _ _ hRk2)) fun r hr=>?_
  subst hr
  refine jU (k:=?_)
  refine jV (u:=.bool false) rfl ?_
  refine K11 (jO rfl (jg (K8 (jb (jI (k:=jM (k:=jw (ji ?_))))))))
  exact fun w' hH hf=>hKL (k+1) _ w' hk' hf .nil ox sR
 ·refine jt (K4 (sQ fun K12=>jb (jA (k:=K12 (jj ?_)))))
  exact je Tryz.results79 rfl fun w' hH hf=>⟨rfl,hf⟩
theorem qkV (w:World) (v u:Value) (xs:List zf) (hv:Lay yW 2 w v xs) (hu:Lay yW 2 w u xs):Calls Tryz.prog 81 #[v,u,.func (.func 82) #[] #[]] w (Ret fun r w'=>r=.bool true∧Fr 0 [] w w'):=by
 obtain ⟨p,c,rfl,hl,hx⟩:=hv.open
 obtain ⟨q,c2,rfl, -,hy⟩:=hu.open
 refine jr (args:=[_,_,_]) [(0,_),(1,_),(2,_)] 0 [] [] Tryz.func81 rfl Tryz.ntmps81 rfl rfl .nil ?_
 refine sQ fun K1=>jb (jA (k:=K1 (sQ fun K2=>sQ fun K3=>jb (jM (k:=jE Vz (k:=jM (k:=jE Vz (k:=?_))))))))
 refine jn rfl (fun _ _ h=>yQ rfl rfl h) ?_
 refine jV (u:=.bool false) (congrArg Value.bool zp) ?_
 refine K3 (jO rfl (jg (K2 (sQ fun K4=>sQ fun K5=>jb (jM (k:=jE Vz (k:=jM (k:=K5 (jh ?_)))))))))
 refine jZ (σ:=Nat) (fun k=>[(1,.slice q xs.length c2),(2,.func (.func 82) #[] #[]),(15,.slice p xs.length c),(16,.int .i64 (xs.length:Nat)),(17,.int .i64 (k:Nat))]) (fun _=>[]) (fun k _=>k≤xs.length) (fun k=>xs.length - k) 0 sR (fun w hH hf=>⟨.nil,Nat.zero_le _⟩) ?_
 rintro k w1 hk hf1 hH1 KL hKL
 refine C.begin _ [] hf1 .nil ?_
 try dsimp only
 refine sQ fun K6=>jb (jS (k:=K6 (sQ fun K7=>?_)))
 refine jq rfl (fun h18=>?_) (fun h18=>?_)
 ·have hk':k<xs.length:=by omega
  obtain ⟨b,o,cs,rfl, -,hR,hcell⟩:=hx k xs[k] (gE hk')
  obtain ⟨b2,o2,cs2,rfl, -,hR2,hcell2⟩:=hy k xs[k] (gE hk')
  have hRk:=hR
  have hRk2:=hR2
  obtain ⟨l,rfl,h⟩:=hR
  obtain ⟨l2,rfl,h2⟩:=hR2
  obtain ⟨p1,c1,rfl, -⟩:=h.open
  obtain ⟨p2,c3,rfl, -⟩:=h2.open
  refine jg (K7 (sQ fun K8=>jh (sQ fun K9=>jb (jM (k:=jJ Vz zk (k:=?_))))))
  refine jp rfl (fun a w ha hH hf=>kD XC zk rfl rfl (hcell w (hf.keepAll (.inr rfl))) ha) (jW (zs:=[(.string ⟨#[]⟩),(.slice none 0 0)]) ZX rfl fun b8=>jA (k:=jB [_,_] [_] 0 zk (k:=K9 (sQ fun K10=>jb (jM (k:=jM (k:=jJ Vz zk (k:=?_))))))))
  refine jp rfl (fun a w ha hH hf=>kD XC zk rfl rfl (hcell2 w (hf.keepAll (.inr rfl))) ha) (jW (zs:=[(.string ⟨#[]⟩),(.slice none 0 0)]) ZX rfl fun b9=>jB [_,_] [_,_] 0 zk (k:=K10 (CJ.t [(1,_),(2,_),(8,_),(9,_),(15,_),(16,_),(17,_)] (k:=sQ fun K11=>jb (jM (k:=?_))))))
  refine jp rfl (fun a w ha hH hf=>vo (vs:=[_,_]) 1 rfl rfl XC zk rfl rfl rfl ha hH) (jp rfl (fun a w ha hH hf=>vo (vs:=[_,_]) 0 rfl rfl XC zk rfl rfl rfl ha hH) ?_)
  refine Xq (g:=82) (φ:=fun r=>r=.bool true) Tryz.call82 rfl rfl rfl (fun v' hH hf=>cl2_c v' _ _ xs[k] (yW.keep (hf.keepAll (.inr rfl)) _ _ hRk) (yW.keep (hf.keepAll (.inr rfl)) _ _ hRk2)) fun r hr=>?_
  subst hr
  refine jU (k:=?_)
  refine jV (u:=.bool false) rfl ?_
  refine K11 (jO rfl (jg (K8 (jb (jI (k:=jM (k:=jw (ji ?_))))))))
  exact fun w' hH hf=>hKL (k+1) _ w' hk' hf .nil ox sR
 ·refine jt (K4 (sQ fun K12=>jb (jA (k:=K12 (jj ?_)))))
  exact je Tryz.results81 rfl fun w' hH hf=>⟨rfl,hf⟩
theorem qfb (w:World) (cs ds:List Value) (x:vP) (hR:Qa w cs x) (hR2:Qa w ds x):Calls Tryz.prog 43 #[.agg cs.toArray,.agg ds.toArray] w (Ret fun r w'=>r=.bool true∧Fr 0 [] w w'):=by
 obtain ⟨l,rfl, -, -, -,h⟩:=hR
 obtain ⟨l2,rfl, -, -, -,h2⟩:=hR2
 obtain ⟨p,c,rfl, -⟩:=h.open
 obtain ⟨p2,c2,rfl, -⟩:=h2.open
 refine jr (args:=[_,_]) [(0,.agg (List.toArray [_,_,_,_])),(1,.agg (List.toArray [_,_,_,_]))] 0 [] [] Tryz.func43 rfl Tryz.ntmps43 rfl rfl .nil ?_
 refine sQ fun K1=>jb (qA (vs:=[_,_,_,_]) rfl rfl fun b2=>qA (vs:=[_,_,_,_]) rfl rfl fun b3=>jA (k:=K1 (sQ fun K2=>jb (jF 0 zr kU (k:=jH 1 vy (k:=jF 0 zr kU (k:=jH 0 vy (k:=jQ (k:=?_)))))))))
 refine jV (u:=.bool true) (congrArg Value.bool zp) ?_
 refine jM (k:=?_)
 refine jy rfl rfl (jF 1 zr so3 (k:=?_))
 refine jy rfl rfl (jH 1 ag3 (k:=?_))
 refine jy rfl rfl (jF 1 zr so3 (k:=?_))
 refine jy rfl rfl (jH 0 ag3 (k:=?_))
 refine jy rfl rfl (jQ (k:=?_))
 refine jV (u:=.bool true) (congrArg Value.bool zp) ?_
 refine jT (k:=jM (k:=?_))
 refine jy rfl rfl (jF 2 zr kU (k:=?_))
 refine jy rfl rfl (jH 1 vy (k:=?_))
 refine jy rfl rfl (jF 2 zr kU (k:=?_))
 refine jy rfl rfl (jH 0 vy (k:=?_))
 refine jy rfl rfl (jQ (k:=?_))
 refine jV (u:=.bool true) (congrArg Value.bool zp) ?_
 refine jT (k:=jM (k:=?_))
 refine jy rfl rfl (jF 3 zr Vx (k:=?_))
 refine jy rfl rfl (jH 1 Yt (k:=?_))
 refine jy rfl rfl (jF 3 zr Vx (k:=?_))
 refine jy rfl rfl (jH 0 Yt (k:=?_))
 refine jy rfl rfl ?_
 refine kg (φ:=fun r=>r=.bool true) Tryz.call83 rfl rfl (fun w3 hH hf=>qkQ w3 _ _ (x.lines) (h.keep (JD.keep (hf.keepAll (.inr rfl))) (hf.keepAll (.inr rfl))) (h2.keep (JD.keep (hf.keepAll (.inr rfl))) (hf.keepAll (.inr rfl)))) fun r hr=>?_
 subst hr
 refine jT (k:=jA (k:=K2 (CJ.t [(4,_)] (k:=jj ?_))))
 exact je Tryz.results43 rfl fun w' hH hf=>⟨rfl,hf⟩
theorem qkW (w:World) (v u:Value) (xs:List vP) (hv:Lay Qa 4 w v xs) (hu:Lay Qa 4 w u xs):Calls Tryz.prog 42 #[v,u,.func (.func 43) #[] #[]] w (Ret fun r w'=>r=.bool true∧Fr 0 [] w w'):=by
 obtain ⟨p,c,rfl,hl,hx⟩:=hv.open
 obtain ⟨q,c2,rfl, -,hy⟩:=hu.open
 refine jr (args:=[_,_,_]) [(0,_),(1,_),(2,_)] 0 [] [] Tryz.func42 rfl Tryz.ntmps42 rfl rfl .nil ?_
 refine sQ fun K1=>jb (jA (k:=K1 (sQ fun K2=>sQ fun K3=>jb (jM (k:=jE JG (k:=jM (k:=jE JG (k:=?_))))))))
 refine jn rfl (fun _ _ h=>yQ rfl rfl h) ?_
 refine jV (u:=.bool false) (congrArg Value.bool zp) ?_
 refine K3 (jO rfl (jg (K2 (sQ fun K4=>sQ fun K5=>jb (jM (k:=jE JG (k:=jM (k:=K5 (jh ?_)))))))))
 refine jZ (σ:=Nat) (fun k=>[(1,.slice q xs.length c2),(2,.func (.func 43) #[] #[]),(15,.slice p xs.length c),(16,.int .i64 (xs.length:Nat)),(17,.int .i64 (k:Nat))]) (fun _=>[]) (fun k _=>k≤xs.length) (fun k=>xs.length - k) 0 sR (fun w hH hf=>⟨.nil,Nat.zero_le _⟩) ?_
 rintro k w1 hk hf1 hH1 KL hKL
 refine C.begin _ [] hf1 .nil ?_
 try dsimp only
 refine sQ fun K6=>jb (jS (k:=K6 (sQ fun K7=>?_)))
 refine jq rfl (fun h18=>?_) (fun h18=>?_)
 ·have hk':k<xs.length:=by omega
  obtain ⟨b,o,cs,rfl, -,hR,hcell⟩:=hx k xs[k] (gE hk')
  obtain ⟨b2,o2,cs2,rfl, -,hR2,hcell2⟩:=hy k xs[k] (gE hk')
  have hRk:=hR
  have hRk2:=hR2
  obtain ⟨l,rfl, -, -, -,h⟩:=hR
  obtain ⟨l2,rfl, -, -, -,h2⟩:=hR2
  obtain ⟨p1,c1,rfl, -⟩:=h.open
  obtain ⟨p2,c3,rfl, -⟩:=h2.open
  refine jg (K7 (sQ fun K8=>jh (sQ fun K9=>jb (jM (k:=jJ JG zg (k:=?_))))))
  refine jp rfl (fun a w ha hH hf=>kD XA zg rfl rfl (hcell w (hf.keepAll (.inr rfl))) ha) (jW (zs:=[(.int .u64 0),(.int .i64 0),(.int .u64 0),(.slice none 0 0)]) YL rfl fun b8=>jA (k:=jB [_,_,_,_] [_] 0 zg (k:=K9 (sQ fun K10=>jb (jM (k:=jM (k:=jJ JG zg (k:=?_))))))))
  refine jp rfl (fun a w ha hH hf=>kD XA zg rfl rfl (hcell2 w (hf.keepAll (.inr rfl))) ha) (jW (zs:=[(.int .u64 0),(.int .i64 0),(.int .u64 0),(.slice none 0 0)]) YL rfl fun b9=>jB [_,_,_,_] [_,_] 0 zg (k:=K10 (CJ.t [(1,_),(2,_),(8,_),(9,_),(15,_),(16,_),(17,_)] (k:=sQ fun K11=>jb (jM (k:=?_))))))
  refine jp rfl (fun a w ha hH hf=>vo (vs:=[_,_,_,_]) 1 rfl rfl XA zg rfl rfl rfl ha hH) (jp rfl (fun a w ha hH hf=>vo (vs:=[_,_,_,_]) 0 rfl rfl XA zg rfl rfl rfl ha hH) ?_)
  refine Xq (g:=43) (φ:=fun r=>r=.bool true) Tryz.call43 rfl rfl rfl (fun v' hH hf=>qfb v' _ _ xs[k] (Qa.keep (hf.keepAll (.inr rfl)) _ _ hRk) (Qa.keep (hf.keepAll (.inr rfl)) _ _ hRk2)) fun r hr=>?_
  subst hr
  refine jU (k:=?_)
  refine jV (u:=.bool false) rfl ?_
  refine K11 (jO rfl (jg (K8 (jb (jI (k:=jM (k:=jw (ji ?_))))))))
  exact fun w' hH hf=>hKL (k+1) _ w' hk' hf .nil ox sR
 ·refine jt (K4 (sQ fun K12=>jb (jA (k:=K12 (jj ?_)))))
  exact je Tryz.results42 rfl fun w' hH hf=>⟨rfl,hf⟩
theorem qfa (w:World) (cs ds:List Value) (x:ku) (hR:vE w cs x) (hR2:vE w ds x):Calls Tryz.prog 40 #[.agg cs.toArray,.agg ds.toArray] w (Ret fun r w'=>r=.bool true∧Fr 0 [] w w'):=by
 obtain ⟨a1,b1,t1,u1,rfl,ha,hb,ht,hu1⟩:=hR
 obtain ⟨a2,b2,t2,u2,rfl,ha2,hb2,ht2,hu2⟩:=hR2
 obtain ⟨pa,ca,rfl, -⟩:=ha.open
 obtain ⟨pb,cb,rfl, -⟩:=hb.open
 obtain ⟨pt,ct,rfl, -⟩:=ht.open
 obtain ⟨pu1,cu1,rfl, -⟩:=hu1.open
 obtain ⟨pa2,ca2,rfl, -⟩:=ha2.open
 obtain ⟨pb2,cb2,rfl, -⟩:=hb2.open
 obtain ⟨pt2,ct2,rfl, -⟩:=ht2.open
 obtain ⟨pu2,cu2,rfl, -⟩:=hu2.open
 refine jr (args:=[_,_]) [(0,.agg (List.toArray [_,_,_,_])),(1,.agg (List.toArray [_,_,_,_]))] 0 [] [] Tryz.func40 rfl Tryz.ntmps40 rfl rfl .nil ?_
 refine sQ fun K1=>jb (qA (vs:=[_,_,_,_]) rfl rfl fun b2=>qA (vs:=[_,_,_,_]) rfl rfl fun b3=>jA (k:=K1 (sQ fun K2=>jb (jF 0 zh Xe (k:=jH 1 ZP (k:=jF 0 zh Xe (k:=jH 0 ZP (k:=?_))))))))
 refine kg (φ:=fun r=>r=.bool true) Tryz.call77 rfl rfl (fun w3 hH hf=>qkR w3 _ _ (x.stack) (ha.keep (vu.keep (hf.keepAll (.inr rfl))) (hf.keepAll (.inr rfl))) (ha2.keep (vu.keep (hf.keepAll (.inr rfl))) (hf.keepAll (.inr rfl)))) fun r hr=>?_
 subst hr
 refine jM (k:=?_)
 refine jy rfl rfl (jF 1 zh Jt (k:=?_))
 refine jy rfl rfl (jH 1 KC (k:=?_))
 refine jy rfl rfl (jF 1 zh Jt (k:=?_))
 refine jy rfl rfl (jH 0 KC (k:=?_))
 refine jy rfl rfl ?_
 refine kg (φ:=fun r=>r=.bool true) Tryz.call78 rfl rfl (fun w3 hH hf=>qgB w3 _ _ (x.values) (hb.keep (vu.keep (hf.keepAll (.inr rfl))) (hf.keepAll (.inr rfl))) (hb2.keep (vu.keep (hf.keepAll (.inr rfl))) (hf.keepAll (.inr rfl)))) fun r hr=>?_
 subst hr
 refine jT (k:=jM (k:=?_))
 refine jy rfl rfl (jF 2 zh qaT (k:=?_))
 refine jy rfl rfl (jH 1 qdS (k:=?_))
 refine jy rfl rfl (jF 2 zh qaT (k:=?_))
 refine jy rfl rfl (jH 0 qdS (k:=?_))
 refine jy rfl rfl ?_
 refine kg (φ:=fun r=>r=.bool true) Tryz.call79 rfl rfl (fun w3 hH hf=>qkT w3 _ _ (x.texts) (ht.keep (xA.keep (hf.keepAll (.inr rfl))) (hf.keepAll (.inr rfl))) (ht2.keep (xA.keep (hf.keepAll (.inr rfl))) (hf.keepAll (.inr rfl)))) fun r hr=>?_
 subst hr
 refine jT (k:=jM (k:=?_))
 refine jy rfl rfl (jF 3 zh qaS (k:=?_))
 refine jy rfl rfl (jH 1 qdR (k:=?_))
 refine jy rfl rfl (jF 3 zh qaS (k:=?_))
 refine jy rfl rfl (jH 0 qdR (k:=?_))
 refine jy rfl rfl ?_
 refine kg (φ:=fun r=>r=.bool true) Tryz.call81 rfl rfl (fun w3 hH hf=>qkV w3 _ _ (x.nums) (hu1.keep (yW.keep (hf.keepAll (.inr rfl))) (hf.keepAll (.inr rfl))) (hu2.keep (yW.keep (hf.keepAll (.inr rfl))) (hf.keepAll (.inr rfl)))) fun r hr=>?_
 subst hr
 refine jT (k:=jA (k:=K2 (CJ.t [(4,_)] (k:=jj ?_))))
 exact je Tryz.results40 rfl fun w' hH hf=>⟨rfl,hf⟩
theorem qkU (w:World) (v u:Value) (xs:List ku) (hv:Lay vE 4 w v xs) (hu:Lay vE 4 w u xs):Calls Tryz.prog 39 #[v,u,.func (.func 40) #[] #[]] w (Ret fun r w'=>r=.bool true∧Fr 0 [] w w'):=by
 obtain ⟨p,c,rfl,hl,hx⟩:=hv.open
 obtain ⟨q,c2,rfl, -,hy⟩:=hu.open
 refine jr (args:=[_,_,_]) [(0,_),(1,_),(2,_)] 0 [] [] Tryz.func39 rfl Tryz.ntmps39 rfl rfl .nil ?_
 refine sQ fun K1=>jb (jA (k:=K1 (sQ fun K2=>sQ fun K3=>jb (jM (k:=jE KA (k:=jM (k:=jE KA (k:=?_))))))))
 refine jn rfl (fun _ _ h=>yQ rfl rfl h) ?_
 refine jV (u:=.bool false) (congrArg Value.bool zp) ?_
 refine K3 (jO rfl (jg (K2 (sQ fun K4=>sQ fun K5=>jb (jM (k:=jE KA (k:=jM (k:=K5 (jh ?_)))))))))
 refine jZ (σ:=Nat) (fun k=>[(1,.slice q xs.length c2),(2,.func (.func 40) #[] #[]),(15,.slice p xs.length c),(16,.int .i64 (xs.length:Nat)),(17,.int .i64 (k:Nat))]) (fun _=>[]) (fun k _=>k≤xs.length) (fun k=>xs.length - k) 0 sR (fun w hH hf=>⟨.nil,Nat.zero_le _⟩) ?_
 rintro k w1 hk hf1 hH1 KL hKL
 refine C.begin _ [] hf1 .nil ?_
 try dsimp only
 refine sQ fun K6=>jb (jS (k:=K6 (sQ fun K7=>?_)))
 refine jq rfl (fun h18=>?_) (fun h18=>?_)
 ·have hk':k<xs.length:=by omega
  obtain ⟨b,o,cs,rfl, -,hR,hcell⟩:=hx k xs[k] (gE hk')
  obtain ⟨b2,o2,cs2,rfl, -,hR2,hcell2⟩:=hy k xs[k] (gE hk')
  have hRk:=hR
  have hRk2:=hR2
  obtain ⟨q1,q2,q3,q4,rfl,hq1,hq2,hq3,hq4⟩:=hR
  obtain ⟨r1,r2,r3,r4,rfl,hr1,hr2,hr3,hr4⟩:=hR2
  obtain ⟨pq1,cq1,rfl, -⟩:=hq1.open
  obtain ⟨pq2,cq2,rfl, -⟩:=hq2.open
  obtain ⟨pq3,cq3,rfl, -⟩:=hq3.open
  obtain ⟨pq4,cq4,rfl, -⟩:=hq4.open
  obtain ⟨pr1,cr1,rfl, -⟩:=hr1.open
  obtain ⟨pr2,cr2,rfl, -⟩:=hr2.open
  obtain ⟨pr3,cr3,rfl, -⟩:=hr3.open
  obtain ⟨pr4,cr4,rfl, -⟩:=hr4.open
  refine jg (K7 (sQ fun K8=>jh (sQ fun K9=>jb (jM (k:=jJ KA zC (k:=?_))))))
  refine jp rfl (fun a w ha hH hf=>kD XY zC rfl rfl (hcell w (hf.keepAll (.inr rfl))) ha) (jW (zs:=[(.slice none 0 0),(.slice none 0 0),(.slice none 0 0),(.slice none 0 0)]) qaK rfl fun b8=>jA (k:=jB [_,_,_,_] [_] 0 zC (k:=K9 (sQ fun K10=>jb (jM (k:=jM (k:=jJ KA zC (k:=?_))))))))
  refine jp rfl (fun a w ha hH hf=>kD XY zC rfl rfl (hcell2 w (hf.keepAll (.inr rfl))) ha) (jW (zs:=[(.slice none 0 0),(.slice none 0 0),(.slice none 0 0),(.slice none 0 0)]) qaK rfl fun b9=>jB [_,_,_,_] [_,_] 0 zC (k:=K10 (CJ.t [(1,_),(2,_),(8,_),(9,_),(15,_),(16,_),(17,_)] (k:=sQ fun K11=>jb (jM (k:=?_))))))
  refine jp rfl (fun a w ha hH hf=>vo (vs:=[_,_,_,_]) 1 rfl rfl XY zC rfl rfl rfl ha hH) (jp rfl (fun a w ha hH hf=>vo (vs:=[_,_,_,_]) 0 rfl rfl XY zC rfl rfl rfl ha hH) ?_)
  refine Xq (g:=40) (φ:=fun r=>r=.bool true) Tryz.call40 rfl rfl rfl (fun v' hH hf=>qfa v' _ _ xs[k] (vE.keep (hf.keepAll (.inr rfl)) _ _ hRk) (vE.keep (hf.keepAll (.inr rfl)) _ _ hRk2)) fun r hr=>?_
  subst hr
  refine jU (k:=?_)
  refine jV (u:=.bool false) rfl ?_
  refine K11 (jO rfl (jg (K8 (jb (jI (k:=jM (k:=jw (ji ?_))))))))
  exact fun w' hH hf=>hKL (k+1) _ w' hk' hf .nil ox sR
 ·refine jt (K4 (sQ fun K12=>jb (jA (k:=K12 (jj ?_)))))
  exact je Tryz.results39 rfl fun w' hH hf=>⟨rfl,hf⟩
theorem qkX (w:World) (cs ds:List Value) (x:jD) (hR:qI w cs x) (hR2:qI w ds x):Calls Tryz.prog 11 #[.agg cs.toArray,.agg ds.toArray] w (Ret fun r w'=>r=.bool true∧Fr 0 [] w w'):=by
 obtain ⟨a,s,m,l,f,cm,rfl,ha,hs,hm,hl,hf0,hcm, -⟩:=hR
 obtain ⟨a2,s2,m2,l2,f2,cm2,rfl,ha2,hs2,hm2,hl2,hf2,hcm2, -⟩:=hR2
 obtain ⟨pa,ca,rfl, -⟩:=ha.open
 obtain ⟨ps,cs,rfl, -⟩:=hs.open
 obtain ⟨pm,cm,rfl, -⟩:=hm.open
 obtain ⟨pl,cl,rfl, -⟩:=hl.open
 obtain ⟨pf0,cf0,rfl, -⟩:=hf0.open
 obtain ⟨pcm,ccm,rfl, -⟩:=hcm.open
 obtain ⟨pa2,ca2,rfl, -⟩:=ha2.open
 obtain ⟨ps2,cs2,rfl, -⟩:=hs2.open
 obtain ⟨pm2,cm2,rfl, -⟩:=hm2.open
 obtain ⟨pl2,cl2,rfl, -⟩:=hl2.open
 obtain ⟨pf2,cf2,rfl, -⟩:=hf2.open
 obtain ⟨pcm2,ccm2,rfl, -⟩:=hcm2.open
 refine jr (args:=[_,_]) [(0,.agg (List.toArray [_,_,_,_,_,_,_,_,_,_,_,_,_,_])),(1,.agg (List.toArray [_,_,_,_,_,_,_,_,_,_,_,_,_,_]))] 0 [] [] Tryz.func11 rfl Tryz.ntmps11 rfl rfl .nil ?_
 refine sQ fun K1=>jb (qA (vs:=[_,_,_,_,_,_,_,_,_,_,_,_,_,_]) rfl rfl fun b2=>qA (vs:=[_,_,_,_,_,_,_,_,_,_,_,_,_,_]) rfl rfl fun b3=>jA (k:=K1 (sQ fun K2=>jb (jF 0 kW Yq (k:=jH 1 ZR (k:=jF 0 kW Yq (k:=jH 0 ZR (k:=?_))))))))
 refine kg (φ:=fun r=>r=.bool true) Tryz.call38 rfl rfl (fun w3 hH hf=>qkO w3 _ _ (x.types) (ha.keep (xz.keep (hf.keepAll (.inr rfl))) (hf.keepAll (.inr rfl))) (ha2.keep (xz.keep (hf.keepAll (.inr rfl))) (hf.keepAll (.inr rfl)))) fun r hr=>?_
 subst hr
 refine jM (k:=?_)
 refine jy rfl rfl (jF 1 kW so9 (k:=?_))
 refine jy rfl rfl (jH 1 ag9 (k:=?_))
 refine jy rfl rfl (jF 1 kW so9 (k:=?_))
 refine jy rfl rfl (jH 0 ag9 (k:=?_))
 refine jy rfl rfl (jn rfl (fun _ _ h=>Qg rfl rfl h) ?_)
 refine jV (u:=.bool true) (congrArg Value.bool zp) ?_
 refine jT (k:=jM (k:=?_))
 refine jy rfl rfl (jF 2 kW Vy (k:=?_))
 refine jy rfl rfl (jH 1 ZQ (k:=?_))
 refine jy rfl rfl (jF 2 kW Vy (k:=?_))
 refine jy rfl rfl (jH 0 ZQ (k:=?_))
 refine jy rfl rfl ?_
 refine kg (φ:=fun r=>r=.bool true) Tryz.call39 rfl rfl (fun w3 hH hf=>qkU w3 _ _ (x.samples) (hs.keep (vE.keep (hf.keepAll (.inr rfl))) (hf.keepAll (.inr rfl))) (hs2.keep (vE.keep (hf.keepAll (.inr rfl))) (hf.keepAll (.inr rfl)))) fun r hr=>?_
 subst hr
 refine jT (k:=jM (k:=?_))
 refine jy rfl rfl (jF 3 kW QB (k:=?_))
 refine jy rfl rfl (jH 1 Yw (k:=?_))
 refine jy rfl rfl (jF 3 kW QB (k:=?_))
 refine jy rfl rfl (jH 0 Yw (k:=?_))
 refine jy rfl rfl ?_
 refine kg (φ:=fun r=>r=.bool true) Tryz.call41 rfl rfl (fun w3 hH hf=>qkP w3 _ _ (x.mappings) (hm.keep (xm.keep (hf.keepAll (.inr rfl))) (hf.keepAll (.inr rfl))) (hm2.keep (xm.keep (hf.keepAll (.inr rfl))) (hf.keepAll (.inr rfl)))) fun r hr=>?_
 subst hr
 refine jT (k:=jM (k:=?_))
 refine jy rfl rfl (jF 4 kW QA (k:=?_))
 refine jy rfl rfl (jH 1 Yv (k:=?_))
 refine jy rfl rfl (jF 4 kW QA (k:=?_))
 refine jy rfl rfl (jH 0 Yv (k:=?_))
 refine jy rfl rfl ?_
 refine kg (φ:=fun r=>r=.bool true) Tryz.call42 rfl rfl (fun w3 hH hf=>qkW w3 _ _ (x.locs) (hl.keep (Qa.keep (hf.keepAll (.inr rfl))) (hf.keepAll (.inr rfl))) (hl2.keep (Qa.keep (hf.keepAll (.inr rfl))) (hf.keepAll (.inr rfl)))) fun r hr=>?_
 subst hr
 refine jT (k:=jM (k:=?_))
 refine jy rfl rfl (jF 5 kW Qz (k:=?_))
 refine jy rfl rfl (jH 1 Yu (k:=?_))
 refine jy rfl rfl (jF 5 kW Qz (k:=?_))
 refine jy rfl rfl (jH 0 Yu (k:=?_))
 refine jy rfl rfl ?_
 refine kg (φ:=fun r=>r=.bool true) Tryz.call44 rfl rfl (fun w3 hH hf=>qkS w3 _ _ (x.funcs) (hf0.keep (JE.keep (hf.keepAll (.inr rfl))) (hf.keepAll (.inr rfl))) (hf2.keep (JE.keep (hf.keepAll (.inr rfl))) (hf.keepAll (.inr rfl)))) fun r hr=>?_
 subst hr
 refine jT (k:=jM (k:=?_))
 refine jy rfl rfl (jF 6 kW xH (k:=?_))
 refine jy rfl rfl (jH 1 yv (k:=?_))
 refine jy rfl rfl (jF 6 kW xH (k:=?_))
 refine jy rfl rfl (jH 0 yv (k:=?_))
 refine jy rfl rfl ?_
 refine kg (φ:=fun r=>r=.bool true) Tryz.call45 rfl rfl (fun w3 hH hf=>qgA w3 _ _ (x.comments) (hcm.keep (xa.keep (hf.keepAll (.inr rfl))) (hf.keepAll (.inr rfl))) (hcm2.keep (xa.keep (hf.keepAll (.inr rfl))) (hf.keepAll (.inr rfl)))) fun r hr=>?_
 subst hr
 refine jT (k:=jM (k:=?_))
 refine jy rfl rfl (jF 7 kW so9 (k:=?_))
 refine jy rfl rfl (jH 1 ag9 (k:=?_))
 refine jy rfl rfl (jF 7 kW so9 (k:=?_))
 refine jy rfl rfl (jH 0 ag9 (k:=?_))
 refine jy rfl rfl (jn rfl (fun _ _ h=>Qg rfl rfl h) ?_)
 refine jV (u:=.bool true) (congrArg Value.bool zp) ?_
 refine jT (k:=jM (k:=?_))
 refine jy rfl rfl (jF 8 kW so9 (k:=?_))
 refine jy rfl rfl (jH 1 ag9 (k:=?_))
 refine jy rfl rfl (jF 8 kW so9 (k:=?_))
 refine jy rfl rfl (jH 0 ag9 (k:=?_))
 refine jy rfl rfl (jn rfl (fun _ _ h=>Qg rfl rfl h) ?_)
 refine jV (u:=.bool true) (congrArg Value.bool zp) ?_
 refine jT (k:=jM (k:=?_))
 refine jy rfl rfl (jF 9 kW so2 (k:=?_))
 refine jy rfl rfl (jH 1 ag2 (k:=?_))
 refine jy rfl rfl (jF 9 kW so2 (k:=?_))
 refine jy rfl rfl (jH 0 ag2 (k:=?_))
 refine jy rfl rfl (jQ (k:=?_))
 refine jV (u:=.bool true) (congrArg Value.bool zp) ?_
 refine jT (k:=jM (k:=?_))
 refine jy rfl rfl (jF 10 kW so2 (k:=?_))
 refine jy rfl rfl (jH 1 ag2 (k:=?_))
 refine jy rfl rfl (jF 10 kW so2 (k:=?_))
 refine jy rfl rfl (jH 0 ag2 (k:=?_))
 refine jy rfl rfl (jQ (k:=?_))
 refine jV (u:=.bool true) (congrArg Value.bool zp) ?_
 refine jT (k:=jM (k:=?_))
 refine jy rfl rfl (jF 11 kW so2 (k:=?_))
 refine jy rfl rfl (jH 1 ag2 (k:=?_))
 refine jy rfl rfl (jF 11 kW so2 (k:=?_))
 refine jy rfl rfl (jH 0 ag2 (k:=?_))
 refine jy rfl rfl (jQ (k:=?_))
 refine jV (u:=.bool true) (congrArg Value.bool zp) ?_
 refine jT (k:=jM (k:=?_))
 refine jy rfl rfl (jF 12 kW zq (k:=?_))
 refine jy rfl rfl (jp rfl (fun a w ha hH hf=>vo (vs:=[_,_]) 1 rfl rfl XB zq rfl rfl rfl ha hH) (jy rfl rfl (jF 12 kW zq (k:=?_))))
 refine jy rfl rfl (jp rfl (fun a w ha hH hf=>vo (vs:=[_,_]) 0 rfl rfl XB zq rfl rfl rfl ha hH) (jy rfl rfl (jn rfl (fun _ _ h=>qle (eqTy _ _) qjN rfl rfl h) (jT (k:=jA (k:=K2 (CJ.t [(4,_)] (k:=jj ?_))))))))
 exact je Tryz.results11 rfl fun w' hH hf=>⟨rfl,hf⟩
theorem qlZ (w:World) (cs:List Value) (x:jD) (hR:qI w cs x):Calls Tryz.prog 12 #[.agg cs.toArray] w (Ret fun r w'=>(∃b,r=.bool b∧(b=true→x.comments=[]∧x.deflt=⟨#[]⟩))∧Fr 0 [] w w'):=by
 obtain ⟨a,s,m,l,f,cm,rfl,ha,hs,hm,hl,hf0,hcm, -⟩:=hR
 obtain ⟨pa,ca,rfl, -⟩:=ha.open
 obtain ⟨ps,c_s,rfl, -⟩:=hs.open
 obtain ⟨pm,c_m,rfl, -⟩:=hm.open
 obtain ⟨pl,cl,rfl, -⟩:=hl.open
 obtain ⟨pf,cf,rfl, -⟩:=hf0.open
 obtain ⟨pc,cc,rfl, -⟩:=hcm.open
 refine jr (args:=[_]) [(0,.agg (List.toArray [_,_,_,_,_,_,_,_,_,_,_,_,_,_]))] 0 [] [] Tryz.func12 rfl Tryz.ntmps12 rfl rfl .nil ?_
 refine sQ fun K1=>jb (qA (vs:=[_,_,_,_,_,_,_,_,_,_,_,_,_,_]) rfl rfl fun b1=>jA (k:=K1 (sQ fun K2=>jb (jF 6 kW xH (k:=jH 0 yv (k:=jE vG (k:=jQ (k:=jM (k:=?_)))))))))
 refine xk (t:=7) rfl (fun hg7=>?_) (fun hg7=>?_)
 ·refine jy rfl rfl (jF 1 kW so9 (k:=?_))
  refine jy rfl rfl (jH 0 ag9 (k:=?_))
  refine jy rfl rfl (jn rfl (fun _ _ h=>Qg rfl rfl h) (jT (k:=jA (k:=K2 (CJ.t [(2,_)] (k:=jj ?_))))))
  first
  |exact je Tryz.results12 rfl fun w' hH hf=>⟨⟨_,rfl,fun h=>⟨by simp at hg7;exact hg7,by simpa using h⟩⟩,hf⟩
  |exact je Tryz.results12 rfl fun w' hH hf=>⟨⟨_,rfl,fun h=>by cases h⟩,hf⟩
 ·refine kN rfl rfl rfl rfl (kN rfl rfl rfl rfl (kN rfl rfl rfl rfl (jK (k:=jA (k:=K2 (jj ?_))))))
  first
  |exact je Tryz.results12 rfl fun w' hH hf=>⟨⟨_,rfl,fun h=>⟨by simp at hg7;exact hg7,by simpa using h⟩⟩,hf⟩
  |exact je Tryz.results12 rfl fun w' hH hf=>⟨⟨_,rfl,fun h=>by cases h⟩,hf⟩
end Go.Proofs.YtifdadlhmlhfiaaGreatDoor
namespace Go.Fw
open Go
variable {a:Act} {t t':Nat} {x:Operand} {w:World}
section
variable {P:Program} {n:Nat} {e:Env} {d ty:Nat} {pos:String} {af:Array Edge}
theorem qla {y:Operand} {xs ys:Array Value} {b:Bool} (he:∀w,(Op.equalIn 10000 t (.agg xs) (.agg ys)).run P w=.ok b w) (hm:P.eqGuardType P.depth t=false) (hx:ev e x=some (.agg xs)) (hy:ev e y=some (.agg ys)) (ha:Sat n e a):
  (execOp a.eval ⟨some d,.binOp .neq t x y t',ty,pos,af,none⟩).run P w=.ok (.value (.bool (!b))) w:=by
 have h:(binOp .neq t (.agg xs) (.agg ys)).run P w=.ok (.bool (!b)) w:=by
  simp only[binOp]
  simp[Op.equal,Op.maxDepth,he w]
 simp only[execOp,ha.ev hx,ha.ev hy]
 simp[run_eqGuard_agg (hm:=hm),h]
theorem qld {y:Operand} {xs ys:Array Value} {b:Bool} (he:∀w,(Op.equalIn 10000 t (.agg xs) (.agg ys)).run P w=.ok b w) (hm:P.eqGuardType P.depth t=false) (hx:ev e x=some (.agg xs)) (hy:ev e y=some (.agg ys)) (ha:Sat n e a):
  (execOp a.eval ⟨some d,.binOp .eql t x y t',ty,pos,af,none⟩).run P w=.ok (.value (.bool b)) w:=by
 have h:(binOp .eql t (.agg xs) (.agg ys)).run P w=.ok (.bool b) w:=by
  simp only[binOp]
  simp[Op.equal,Op.maxDepth,he w]
 simp only[execOp,ha.ev hx,ha.ev hy]
 simp[run_eqGuard_agg (hm:=hm),h]
end
end Go.Fw
namespace Go.Proofs.YtifdadlhmlhfiaaGreatDoor
open Go Go.Fw Go.Proofs Go.Proofs.Tryz
theorem qks (t u:xn) (w:World):(Op.equalIn 10000 tTy (.agg #[.string t.ty,.string t.unit]) (.agg #[.string u.ty,.string u.unit])).run Tryz.prog w=.ok (decide (t=u)) w:=by
 have h1:Tryz.prog.underlying tTy=some (.struct (Tryz.prog.fieldsOf tTy)):=by simp[Program.fieldsOf,qgo]
 have h2:=run_equalIn_agg (P:=Tryz.prog) w 9999 tTy #[.string t.ty,.string t.unit] #[.string u.ty,.string u.unit] h1 shTy
 simp only[Nat.reduceAdd]at h2
 rw[h2]
 have hs:=fun (a b:ByteArray) (w:World)=>run_equalIn_string (P:=Tryz.prog) w 9998 9 a b ud9
 simp only[Nat.reduceAdd]at hs
 obtain ⟨t1,t2⟩:=t
 obtain ⟨u1,u2⟩:=u
 have e:decide (xn.mk t1 t2=xn.mk u1 u2)=(decide (t1=u1)&&decide (t2=u2)):=by simp
 rw[e]
 by_cases e1:t1=u1<;>by_cases e2:t2=u2<;>simp[Program.fieldsOf,qgo,Op.eqFields,part,ag9,hs,qeH,e1,e2]
theorem qiD (w:World) (v u:Value) (xs ys:List xn) (hv:Lay xz 2 w v xs) (hu:Lay xz 2 w u ys):Calls Tryz.prog 38 #[v,u] w (Ret fun r w'=>(∃b,r=.bool b∧(b=true→xs=ys))∧Fr 0 [] w w'):=by
 obtain ⟨p,c,rfl,hl,hx⟩:=hv.open
 obtain ⟨q,c2,rfl, -,hy⟩:=hu.open
 refine jr (args:=[_,_]) [(0,_),(1,_)] 0 [] [] Tryz.func38 rfl Tryz.ntmps38 rfl rfl .nil ?_
 refine sQ fun K1=>jb (jA (k:=K1 (sQ fun K2=>sQ fun K3=>jb (jM (k:=jE KI (k:=jM (k:=jE KI (k:=?_))))))))
 refine jn rfl (fun _ _ h=>yQ rfl rfl h) (K3 ?_)
 refine qZ rfl (fun h10=>?_) (fun h10=>?_)
 ·refine sQ fun K4=>jb (jA (k:=K4 (jj ?_)))
  first
  |exact je Tryz.results38 rfl fun w' hH hf=>⟨⟨_,rfl,fun _=>hxy⟩,hf⟩
  |exact je Tryz.results38 rfl fun w' hH hf=>⟨⟨_,rfl,fun h=>by cases h⟩,hf⟩
 ·have hlen:xs.length=ys.length:=by simp at h10;omega
  refine jg (K2 (sQ fun K5=>sQ fun K6=>jb (jM (k:=jE KI (k:=jM (k:=K6 (CJ.t [(0,_),(1,_),(12,_),(13,_)] (k:=jh ?_))))))))
  refine jZ (σ:=Nat) (fun k=>[(0,.slice p xs.length c),(1,.slice q ys.length c2),(12,.int .i64 (xs.length:Nat)),(13,.int .i64 (k:Nat))]) (fun _=>[]) (fun k _=>k≤xs.length∧xs.take k=ys.take k) (fun k=>xs.length - k) 0 sR (fun w hH hf=>⟨.nil,Nat.zero_le _,rfl⟩) ?_
  rintro k w1 ⟨hk,hT⟩ hf1 hH1 KL hKL
  refine C.begin _ [] hf1 .nil ?_
  try dsimp only
  refine sQ fun K7=>jb (jS (k:=K7 (sQ fun K8=>?_)))
  refine jq rfl (fun h14=>?_) (fun h14=>?_)
  ·have hk':k<xs.length:=by omega
   have hk2:k<ys.length:=by omega
   obtain ⟨b,o,cs,rfl, -,hR,hcell⟩:=hx k xs[k] (gE hk')
   obtain ⟨b2,o2,cs2,rfl, -,hR2,hcell2⟩:=hy k ys[k] (gE hk2)
   unfold xz at hR hR2
   subst hR;subst hR2
   refine jg (K8 (sQ fun K9=>jh (sQ fun K10=>jb (jM (k:=jA (k:=K10 (sQ fun K11=>?_)))))))
   refine jC 9 (lts [0,1,2,3,4,5,6,7,8]) [] rfl (by kernel_rfl) (by kernel_rfl) (dM [] (k:=dM [] (k:=?_)))
   refine jo rfl rfl (jd [] rfl) (fun _ _ h=>vH KI zq rfl rfl ox h) (vV rfl rfl (jd [] rfl) (fun a w ha hS=>kD XB zq rfl rfl (hcell w (hS.2.keepAll (.inr rfl))) ha) (dM [] (k:=dM [] (k:=?_))))
   refine jo rfl rfl (jd [] rfl) (fun _ _ h=>vH KI zq rfl rfl ox h) (vV rfl rfl (jd [] rfl) (fun a w ha hS=>kD XB zq rfl rfl (hcell2 w (hS.2.keepAll (.inr rfl))) ha) (jo rfl rfl (jd [] rfl) (fun _ _ h=>qla (qks _ _) qjN rfl rfl h) (K11 (CJ.t [(0,_),(1,_),(12,_),(13,_),(24,_)] (k:=?_)))))
   refine qZ rfl (fun h24=>?_) (fun h24=>?_)
   ·refine sQ fun K12=>jb (jA (k:=K12 (jj ?_)))
    first
    |exact je Tryz.results38 rfl fun w' hH hf=>⟨⟨_,rfl,fun _=>hxy⟩,hf⟩
    |exact je Tryz.results38 rfl fun w' hH hf=>⟨⟨_,rfl,fun h=>by cases h⟩,hf⟩
   ·have he:xs[k]=ys[k]:=by simpa using h24
    refine jg (K9 (jb (jI (k:=jM (k:=jw (ji ?_))))))
    exact fun w' hH hf=>hKL (k+1) _ w' ⟨hk',by rw[← tG hk', ← tG hk2,hT,he]⟩ hf .nil ox sR
  ·have hke:k=xs.length:=by omega
   have hxy:xs=ys:=by rw[tL ox,tL ox]at hT;exact hT
   refine jt (K5 (sQ fun K13=>jb (jA (k:=K13 (jj ?_)))))
   first
   |exact je Tryz.results38 rfl fun w' hH hf=>⟨⟨_,rfl,fun _=>hxy⟩,hf⟩
   |exact je Tryz.results38 rfl fun w' hH hf=>⟨⟨_,rfl,fun h=>by cases h⟩,hf⟩
theorem qjW (w:World) (cs ds:List Value) (x y:jD) (hx:qI w cs x) (hy:qI w ds y):Calls Tryz.prog 49 #[.agg cs.toArray,.agg ds.toArray] w (Ret fun r w'=>(∃b,r=.bool b∧(b=true→x.types=y.types∧x.per=y.per))∧Fr 0 [] w w'):=by
 obtain ⟨a,s,m,l,f,cm,rfl,ha,hs,hm,hl,hf0,hcm, -⟩:=hx
 obtain ⟨a2,s2,m2,l2,f2,cm2,rfl,ha2,hs2,hm2,hl2,hf02,hcm2, -⟩:=hy
 have ha':=ha
 have ha2':=ha2
 obtain ⟨pa,ca,rfl, -⟩:=ha.open
 obtain ⟨ps,c_s,rfl, -⟩:=hs.open
 obtain ⟨pm,c_m,rfl, -⟩:=hm.open
 obtain ⟨pl,cl,rfl, -⟩:=hl.open
 obtain ⟨pf,cf,rfl, -⟩:=hf0.open
 obtain ⟨pc,cc,rfl, -⟩:=hcm.open
 obtain ⟨pa2,ca2,rfl, -⟩:=ha2.open
 obtain ⟨ps2,c_s2,rfl, -⟩:=hs2.open
 obtain ⟨pm2,c_m2,rfl, -⟩:=hm2.open
 obtain ⟨pl2,cl2,rfl, -⟩:=hl2.open
 obtain ⟨pf2,cf2,rfl, -⟩:=hf02.open
 obtain ⟨pc2,cc2,rfl, -⟩:=hcm2.open
 refine jr (args:=[_,_]) [(0,.agg (List.toArray [_,_,_,_,_,_,_,_,_,_,_,_,_,_])),(1,.agg (List.toArray [_,_,_,_,_,_,_,_,_,_,_,_,_,_]))] 0 [] [] Tryz.func49 rfl Tryz.ntmps49 rfl rfl .nil ?_
 refine sQ fun K1=>jb (qA (vs:=[_,_,_,_,_,_,_,_,_,_,_,_,_,_]) rfl rfl fun b2=>qA (vs:=[_,_,_,_,_,_,_,_,_,_,_,_,_,_]) rfl rfl fun b3=>jA (k:=K1 (sQ fun K2=>jb (jF 0 kW Yq (k:=jH 1 ZR (k:=jF 0 kW Yq (k:=jH 0 ZR (k:=?_))))))))
 refine kg (φ:=fun v=>∃b,v=.bool b∧(b=true→x.types=y.types)) Tryz.call38 rfl rfl (fun w hH hf=>qiD w _ _ _ _ (ha'.keep (xz.keep (hf.keepAll (.inr rfl))) (hf.keepAll (.inr rfl))) (ha2'.keep (xz.keep (hf.keepAll (.inr rfl))) (hf.keepAll (.inr rfl)))) ?_
 rintro _ ⟨bt,rfl,hbt⟩
 refine jM (k:=?_)
 refine xk (t:=10) rfl (fun hg10=>?_) (fun hg10=>?_)
 ·refine jy rfl rfl (jF 12 kW zq (k:=?_))
  refine jy rfl rfl (jp rfl (fun a w ha hH hf=>vo (vs:=[_,_]) 1 rfl rfl XB zq rfl rfl rfl ha hH) (jy rfl rfl (jF 12 kW zq (k:=?_))))
  refine jy rfl rfl (jp rfl (fun a w ha hH hf=>vo (vs:=[_,_]) 0 rfl rfl XB zq rfl rfl rfl ha hH) (jy rfl rfl ?_))
  first|refine jy rfl rfl ?_|skip
  refine jn rfl (fun _ _ h=>qld (qks x.per y.per) qjN rfl rfl h) (jT (k:=jA (k:=K2 (CJ.t [(4,_)] (k:=jj ?_)))))
  first
  |exact je Tryz.results49 rfl fun w' hH hf=>⟨⟨_,rfl,fun h=>⟨hbt (by simpa using hg10),by simpa using h⟩⟩,hf⟩
  |exact je Tryz.results49 rfl fun w' hH hf=>⟨⟨_,rfl,fun h=>by cases h⟩,hf⟩
 ·refine kN rfl rfl rfl rfl (kN rfl rfl rfl rfl (kN rfl rfl rfl rfl (kN rfl rfl rfl rfl (kN rfl rfl rfl rfl (jK (k:=jA (k:=K2 (jj ?_))))))))
  first
  |exact je Tryz.results49 rfl fun w' hH hf=>⟨⟨_,rfl,fun h=>⟨hbt (by simpa using hg10),by simpa using h⟩⟩,hf⟩
  |exact je Tryz.results49 rfl fun w' hH hf=>⟨⟨_,rfl,fun h=>by cases h⟩,hf⟩
def qkE (xs:List jD):Prop:=(∀x∈xs,vW x∧(x.comments=[]∧x.deflt=⟨#[]⟩)∧(∀z,xs[0]? =some z→x.types=z.types∧x.per=z.per)∧0<x.time∧0<x.period)∧1≤xs.length∧xs.length≤10
set_option maxHeartbeats 2000000 in
theorem qkK (w:World) (v:Value) (xs:List jD) (hv:Lay qI 14 w v xs) (hb:∀x∈xs,x.mappings.length≤2147483647∧x.locs.length≤2147483647∧x.funcs.length≤2147483647):
  Calls Tryz.prog 15 #[v] w (Ret fun r w'=>(∃b,r=.bool b∧(b=true→qkE xs))∧Fr 0 [] w w'):=by
 obtain ⟨p,c,rfl,hl,hx⟩:=hv.open
 refine jr (args:=[_]) [(0,_)] 0 [] [] Tryz.func15 rfl Tryz.ntmps15 rfl rfl .nil ?_
 refine sQ fun K1=>jb (jA (k:=K1 ?_))
 refine qP fun K2 hK2=>sQ fun K3=>jb (jM (k:=jE qfd (k:=jM (k:=K3 (jh ?_)))))
 refine jZ (σ:=Nat) (fun k=>[(0,.slice p xs.length c),(5,.slice p xs.length c),(6,.int .i64 (xs.length:Nat)),(7,.int .i64 (k:Nat))]) (fun _=>[]) (fun k _=>k≤xs.length∧∀x∈xs.take k,vW x∧(x.comments=[]∧x.deflt=⟨#[]⟩)∧(∀z,xs[0]? =some z→x.types=z.types∧x.per=z.per)∧0<x.time∧0<x.period) (fun k=>xs.length - k) 0 sR (fun w hH hf=>⟨.nil,Nat.zero_le _,fun _ h=>by cases h⟩) ?_
 rintro k w1 ⟨hk,hT⟩ hf1 hH1 KL hKL
 refine C.begin _ [] hf1 .nil ?_
 try dsimp only
 refine sQ fun K4=>jb (jS (k:=K4 (sQ fun K5=>?_)))
 refine jq rfl (fun h8=>?_) (fun h8=>?_)
 ·have hk':k<xs.length:=by omega
  have h0:0<xs.length:=by omega
  obtain ⟨b,o,cs,rfl,hlc,hR,hcell⟩:=hx k xs[k] (gE hk')
  obtain ⟨b0,o0,cs0,e0,hlc0,hR0,hcell0⟩:=hx 0 xs[0] (gE h0)
  cases e0
  have hRk:=hR
  have hRk0:=hR0
  obtain ⟨hb1,hb2,hb3⟩:=hb _ (List.getElem_mem hk')
  obtain ⟨la,ls,lm,ll,lf,lcm,rfl,hla,hls,hlm,hll,hlf,hlcm, -⟩:=hR
  obtain ⟨pa,ca,rfl, -⟩:=hla.open
  obtain ⟨ps,c_s,rfl, -⟩:=hls.open
  obtain ⟨pm,c_m,rfl, -⟩:=hlm.open
  obtain ⟨pl,cl,rfl, -⟩:=hll.open
  obtain ⟨pf,cf,rfl, -⟩:=hlf.open
  obtain ⟨pc,cc,rfl, -⟩:=hlcm.open
  obtain ⟨la',ls',lm',ll',lf',lcm',rfl,hla',hls',hlm',hll',hlf',hlcm', -⟩:=hR0
  obtain ⟨pa',ca',rfl, -⟩:=hla'.open
  obtain ⟨ps',c_s',rfl, -⟩:=hls'.open
  obtain ⟨pm',c_m',rfl, -⟩:=hlm'.open
  obtain ⟨pl',cl',rfl, -⟩:=hll'.open
  obtain ⟨pf',cf',rfl, -⟩:=hlf'.open
  obtain ⟨pc',cc',rfl, -⟩:=hlcm'.open
  refine jg (K5 (sQ fun K6=>jh (sQ fun K7=>jb (jJ qfd yJ (k:=?_)))))
  refine jp rfl (fun a w ha hH hf=>kD Ki yJ rfl rfl (hcell w (hf.keepAll (.inr rfl))) ha) (jW (zs:=[(.slice none 0 0),(.string ⟨#[]⟩),(.slice none 0 0),(.slice none 0 0),(.slice none 0 0),(.slice none 0 0),(.slice none 0 0),(.string ⟨#[]⟩),(.string ⟨#[]⟩),(.int .i64 0),(.int .i64 0),(.int .i64 0),(.string ⟨#[]⟩),(.string ⟨#[]⟩)]) ZF rfl fun b4=>jB [_,_,_,_,_,_,_,_,_,_,_,_,_,_] [_] 0 yJ (k:=K7 (sQ fun K8=>?_)))
  refine jC 26 (lts [0]++(1,false)::(lts [2,3,4]++(5,false)::(lts [6,7,8,9,10,11,12]++(13,false)::lts [14,15,16,17,18,19,20,21,22,23,24,25]))) [0] rfl (by kernel_rfl) (by kernel_rfl) (vV rfl rfl (jd [0] rfl) (fun a w ha hS=>Ju (vs:=[_,_,_,_,_,_,_,_,_,_,_,_,_,_]) 0 rfl rfl Ki yJ rfl rfl rfl ha hS) (dE (h:=fun Kd=>?_)))
  refine kg (φ:=fun v=>∃b,v=.bool b∧(b=true→vW xs[k])) Tryz.call8 rfl rfl (fun w hH hf=>qkG w _ _ (qI.keep (hf.keepAll (.inr rfl)) _ _ hRk) hb1 hb2 hb3) ?_
  rintro _ ⟨bw,rfl,hbw⟩
  refine Kd (sb [0]) (jo rfl rfl (jd [0] rfl) (fun _ _ h=>qaj rfl h) (dM [0] (k:=?_)))
  refine xP (t:=14) rfl (fun hg14=>?_) (fun hg14=>?_)
  ·refine kA rfl rfl rfl rfl rfl (jd [0] rfl) (dE (h:=fun Kd=>kN rfl rfl rfl rfl (Kd (sb [0]) (kA rfl rfl rfl rfl rfl (jd [0] rfl) (jo rfl rfl (jd [0] rfl) (fun _ _ h=>qD rfl rfl h) (dM [0] (k:=?_)))))))
   refine kA rfl rfl rfl rfl rfl (jd [0] rfl) (kA rfl rfl rfl rfl rfl (jd [0] rfl) (kA rfl rfl rfl rfl rfl (jd [0] rfl) (kA rfl rfl rfl rfl rfl (jd [0] rfl) (dE (h:=fun Kd=>kN rfl rfl rfl rfl (Kd (sb [0]) (kA rfl rfl rfl rfl rfl (jd [0] rfl) (jo rfl rfl (jd [0] rfl) (fun _ _ h=>qD rfl rfl h) (dM [0] (k:=?_))))))))))
   refine kA rfl rfl rfl rfl rfl (jd [0] rfl) (kA rfl rfl rfl rfl rfl (jd [0] rfl) (kA rfl rfl rfl rfl rfl (jd [0] rfl) (jo rfl rfl (jd [0] rfl) (fun _ _ h=>qD rfl rfl h) (dM [0] (k:=?_)))))
   refine kA rfl rfl rfl rfl rfl (jd [0] rfl) (kA rfl rfl rfl rfl rfl (jd [0] rfl) (kA rfl rfl rfl rfl rfl (jd [0] rfl) (jo rfl rfl (jd [0] rfl) (fun _ _ h=>qD rfl rfl h) (K8 (CJ.t [(0,_),(5,_),(6,_),(7,_),(36,_)] (k:=?_))))))
   refine ql rfl (sQ fun K9=>jb (jA (k:=K9 (jj ?_))))
   first
   |exact je Tryz.results15 rfl fun w' hH hf=>⟨⟨_,rfl,fun h=>⟨hT,by simp at hg41;omega,by simp at h;omega⟩⟩,hf⟩
   |exact je Tryz.results15 rfl fun w' hH hf=>⟨⟨_,rfl,fun h=>by cases h⟩,hf⟩
  ·refine kK rfl rfl rfl rfl (jd [0] rfl) (fun a w ha hS=>Ju (vs:=[_,_,_,_,_,_,_,_,_,_,_,_,_,_]) 0 rfl rfl Ki yJ rfl rfl rfl ha hS) (dE (h:=fun Kd=>jy rfl rfl ?_))
   refine kg (φ:=fun v=>∃b,v=.bool b∧(b=true→xs[k].comments=[]∧xs[k].deflt=⟨#[]⟩)) Tryz.call12 rfl rfl (fun w hH hf=>qlZ w _ _ (qI.keep (hf.keepAll (.inr rfl)) _ _ hRk)) ?_
   rintro _ ⟨bb,rfl,hbb⟩
   refine Kd (sb [0]) (kK rfl rfl rfl rfl (jd [0] rfl) (fun a w ha hS=>qaj rfl ha) (jo rfl rfl (jd [0] rfl) (fun _ _ h=>xd rfl rfl h) (dM [0] (k:=?_))))
   refine xP (t:=19) rfl (fun hg19=>?_) (fun hg19=>?_)
   ·refine kA rfl rfl rfl rfl rfl (jd [0] rfl) (kA rfl rfl rfl rfl rfl (jd [0] rfl) (kA rfl rfl rfl rfl rfl (jd [0] rfl) (kA rfl rfl rfl rfl rfl (jd [0] rfl) (dE (h:=fun Kd=>kN rfl rfl rfl rfl (Kd (sb [0]) (kA rfl rfl rfl rfl rfl (jd [0] rfl) (jo rfl rfl (jd [0] rfl) (fun _ _ h=>qD rfl rfl h) (dM [0] (k:=?_))))))))))
    refine kA rfl rfl rfl rfl rfl (jd [0] rfl) (kA rfl rfl rfl rfl rfl (jd [0] rfl) (kA rfl rfl rfl rfl rfl (jd [0] rfl) (jo rfl rfl (jd [0] rfl) (fun _ _ h=>qD rfl rfl h) (dM [0] (k:=?_)))))
    refine kA rfl rfl rfl rfl rfl (jd [0] rfl) (kA rfl rfl rfl rfl rfl (jd [0] rfl) (kA rfl rfl rfl rfl rfl (jd [0] rfl) (jo rfl rfl (jd [0] rfl) (fun _ _ h=>qD rfl rfl h) (K8 (CJ.t [(0,_),(5,_),(6,_),(7,_),(36,_)] (k:=?_))))))
    refine ql rfl (sQ fun K10=>jb (jA (k:=K10 (jj ?_))))
    first
    |exact je Tryz.results15 rfl fun w' hH hf=>⟨⟨_,rfl,fun h=>⟨hT,by simp at hg41;omega,by simp at h;omega⟩⟩,hf⟩
    |exact je Tryz.results15 rfl fun w' hH hf=>⟨⟨_,rfl,fun h=>by cases h⟩,hf⟩
   ·refine kK rfl rfl rfl rfl (jd [0] rfl) (fun a w ha hS=>Ju (vs:=[_,_,_,_,_,_,_,_,_,_,_,_,_,_]) 0 rfl rfl Ki yJ rfl rfl rfl ha hS) (kK rfl rfl rfl rfl (jd [0] rfl) (fun a w ha hS=>vm rfl ha) (kK rfl rfl rfl rfl (jd [0] rfl) (fun a w ha hS=>vH qfd yJ rfl rfl ox ha) (kK rfl rfl rfl rfl (jd [0] rfl) (fun a w ha hS=>kD Ki yJ rfl rfl (hcell0 w (hS.2.keepAll (.inr rfl))) ha) (dE (h:=fun Kd=>jy rfl rfl ?_)))))
    refine kg (φ:=fun v=>∃b,v=.bool b∧(b=true→xs[k].types=xs[0].types∧xs[k].per=xs[0].per)) Tryz.call49 rfl rfl (fun w hH hf=>qjW w _ _ _ _ (qI.keep (hf.keepAll (.inr rfl)) _ _ hRk) (qI.keep (hf.keepAll (.inr rfl)) _ _ hRk0)) ?_
    rintro _ ⟨ba,rfl,hba⟩
    refine Kd (sb [0]) (kK rfl rfl rfl rfl (jd [0] rfl) (fun a w ha hS=>qaj rfl ha) (jo rfl rfl (jd [0] rfl) (fun _ _ h=>xd rfl rfl h) (dM [0] (k:=?_))))
    refine xP (t:=27) rfl (fun hg27=>?_) (fun hg27=>?_)
    ·refine kA rfl rfl rfl rfl rfl (jd [0] rfl) (kA rfl rfl rfl rfl rfl (jd [0] rfl) (kA rfl rfl rfl rfl rfl (jd [0] rfl) (jo rfl rfl (jd [0] rfl) (fun _ _ h=>qD rfl rfl h) (dM [0] (k:=?_)))))
     refine kA rfl rfl rfl rfl rfl (jd [0] rfl) (kA rfl rfl rfl rfl rfl (jd [0] rfl) (kA rfl rfl rfl rfl rfl (jd [0] rfl) (jo rfl rfl (jd [0] rfl) (fun _ _ h=>qD rfl rfl h) (K8 (CJ.t [(0,_),(5,_),(6,_),(7,_),(36,_)] (k:=?_))))))
     refine ql rfl (sQ fun K11=>jb (jA (k:=K11 (jj ?_))))
     first
     |exact je Tryz.results15 rfl fun w' hH hf=>⟨⟨_,rfl,fun h=>⟨hT,by simp at hg41;omega,by simp at h;omega⟩⟩,hf⟩
     |exact je Tryz.results15 rfl fun w' hH hf=>⟨⟨_,rfl,fun h=>by cases h⟩,hf⟩
    ·refine kK rfl rfl rfl rfl (jd [0] rfl) (fun a w ha hS=>xR (q:=9) (ft:=2) kW rfl so2 rfl ha) (kK rfl rfl rfl rfl (jd [0] rfl) (fun a w ha hS=>zx 0 rfl rfl ag2 rfl rfl ha hS) (kK rfl rfl rfl rfl (jd [0] rfl) (fun a w ha hS=>Xh rfl rfl ha) (jo rfl rfl (jd [0] rfl) (fun _ _ h=>xd rfl rfl h) (dM [0] (k:=?_)))))
     refine xP (t:=32) rfl (fun hg32=>?_) (fun hg32=>?_)
     ·refine kA rfl rfl rfl rfl rfl (jd [0] rfl) (kA rfl rfl rfl rfl rfl (jd [0] rfl) (kA rfl rfl rfl rfl rfl (jd [0] rfl) (jo rfl rfl (jd [0] rfl) (fun _ _ h=>qD rfl rfl h) (K8 (ql rfl (sQ fun K12=>jb (jA (k:=K12 (CJ.t [(2,_)] (k:=jj ?_))))))))))
      first
      |exact je Tryz.results15 rfl fun w' hH hf=>⟨⟨_,rfl,fun h=>⟨hT,by simp at hg41;omega,by simp at h;omega⟩⟩,hf⟩
      |exact je Tryz.results15 rfl fun w' hH hf=>⟨⟨_,rfl,fun h=>by cases h⟩,hf⟩
     ·refine kK rfl rfl rfl rfl (jd [0] rfl) (fun a w ha hS=>xR (q:=11) (ft:=2) kW rfl so2 rfl ha) (kK rfl rfl rfl rfl (jd [0] rfl) (fun a w ha hS=>zx 0 rfl rfl ag2 rfl rfl ha hS) (kK rfl rfl rfl rfl (jd [0] rfl) (fun a w ha hS=>Xh rfl rfl ha) (jo rfl rfl (jd [0] rfl) (fun _ _ h=>xd rfl rfl h) (K8 ?_))))
      refine qZ rfl (fun h36=>?_) (fun h36=>?_)
      ·refine sQ fun K13=>jb (jA (k:=K13 (jj ?_)))
       first
       |exact je Tryz.results15 rfl fun w' hH hf=>⟨⟨_,rfl,fun h=>⟨hT,by simp at hg41;omega,by simp at h;omega⟩⟩,hf⟩
       |exact je Tryz.results15 rfl fun w' hH hf=>⟨⟨_,rfl,fun h=>by cases h⟩,hf⟩
      ·have hall:vW xs[k]∧(xs[k].comments=[]∧xs[k].deflt=⟨#[]⟩)∧(∀z,xs[0]? =some z→xs[k].types=z.types∧xs[k].per=z.per)∧0<xs[k].time∧0<xs[k].period:=⟨hbw (by simpa using hg14),hbb (by simpa using hg19),fun z hz=>by
         rw[gE h0]at hz
         cases hz
         exact hba (by simpa using hg27),by simpa using hg32,by simpa using h36⟩
       refine jg (K6 (jb (jI (k:=jM (k:=jw (ji ?_))))))
       exact fun w' hH hf=>hKL (k+1) _ w' ⟨hk',fun x hx=>by
         rw[← tG hk']at hx
         rcases mA hx with hx|hx
         ·exact hT x hx
         ·simp at hx;subst hx;exact hall⟩ hf .nil ox ⟨rfl,rfl,rfl,rfl,trivial⟩
 ·have hke:k=xs.length:=by omega
  rw[tL ox]at hT
  refine jt (qg (qg (xy (ji (hK2 _ _ _ (sQ fun K14=>jb (jM (k:=jE qfd (k:=?_)))))))))
  refine jn rfl (fun _ _ h=>Jl rfl rfl h) (jM (k:=?_))
  refine xk (t:=41) rfl (fun hg41=>?_) (fun hg41=>?_)
  ·refine jy rfl rfl (jM (k:=?_))
   refine jy rfl rfl (jE qfd (k:=?_))
   refine jy rfl rfl (jn rfl (fun _ _ h=>Xh rfl rfl h) (jT (k:=jA (k:=K14 (CJ.t [(2,_)] (k:=jj ?_))))))
   first
   |exact je Tryz.results15 rfl fun w' hH hf=>⟨⟨_,rfl,fun h=>⟨hT,by simp at hg41;omega,by simp at h;omega⟩⟩,hf⟩
   |exact je Tryz.results15 rfl fun w' hH hf=>⟨⟨_,rfl,fun h=>by cases h⟩,hf⟩
  ·refine kN rfl rfl rfl rfl (kN rfl rfl rfl rfl (kN rfl rfl rfl rfl (jK (k:=jA (k:=K14 (jj ?_))))))
   first
   |exact je Tryz.results15 rfl fun w' hH hf=>⟨⟨_,rfl,fun h=>⟨hT,by simp at hg41;omega,by simp at h;omega⟩⟩,hf⟩
   |exact je Tryz.results15 rfl fun w' hH hf=>⟨⟨_,rfl,fun h=>by cases h⟩,hf⟩
end Go.Proofs.YtifdadlhmlhfiaaGreatDoor
namespace Go.Fw
open Go
variable {cs:List Value} {c l sz:Nat} {x:Operand} {p:Option Addr} {v:Value} {w:World}
section
variable {P:Program} {n:Nat} {e:Env} {d ty:Nat} {pos:String} {af:Array Edge}
theorem qdq (dd t:Nat) {a:Addr} {te:TypeId} (hu:P.underlying t=some (.slice te)) (w:World):(Op.equalIn (dd+1) t (.slice (some a) l c) (.slice none 0 0)).run P w=.ok false w:=by
 simp[Op.equalIn,run_underlying hu]
theorem qdp (dd t:Nat) {te:TypeId} (hu:P.underlying t=some (.slice te)) (w:World):(Op.equalIn (dd+1) t (.slice none l c) (.slice none 0 0)).run P w=.ok true w:=by
 simp[Op.equalIn,run_underlying hu]
theorem Vg {t t':Nat} {te:Nat} (hu:P.underlying t=some (.slice te)) (hx:ev e x=some (.slice p l c)) {a:Act} (ha:Sat n e a):
  (execOp a.eval ⟨some d,.binOp .eql t x (.const (.slice none 0 0)) t',ty,pos,af,none⟩).run P w=.ok (.value (.bool p.isNone)) w:=by
 cases p with
 |none=>
  have h:(binOp .eql t (.slice none l c) (.slice none 0 0)).run P w=.ok (.bool true) w:=by
    simp only[binOp]
    simp[Op.equal,Op.maxDepth,qdp 9999 t hu]
  simp only[execOp,ha.ev hx,yU]
  simp[eqGuard,h]
 |some b=>
  have h:(binOp .eql t (.slice (some b) l c) (.slice none 0 0)).run P w=.ok (.bool false) w:=by
    simp only[binOp]
    simp[Op.equal,Op.maxDepth,qdq 9999 t hu]
  simp only[execOp,ha.ev hx,yU]
  simp[eqGuard,h]
end
theorem SlV.first {P:Program} (h:SlV w sz v l cs) (w1:World) (k:vQ w w1):(Builtin.firstCells sz l v).run P w1=.ok cs.toArray w1:=by
 obtain ⟨⟨p,c,rfl,h2,h3⟩,h4,h5⟩:=h
 rcases h3 with h3|⟨b,o,rfl,h3⟩
 ·subst h3
  have:cs=[]:=List.eq_nil_of_length_eq_zero (by simpa using h4)
  subst this
  cases p with
  |none=>simp[Builtin.firstCells]
  |some a=>
   simp only[Builtin.firstCells,Nat.zero_mul]
   rfl
 ·simp only[Builtin.firstCells]
  rw[← h4]
  exact vX w1 _ _ fun j u hj=>k.cell (h3 j u hj)
theorem SlV.parts (h:SlV w sz v l cs):∃p c,v=.slice p l c:=by
 obtain ⟨⟨p,c,h, -⟩, -⟩:=h
 exact ⟨p,c,h⟩
section
variable {P:Program} {Q:Exit→Act→World→Prop} {n:Nat} {f:Fm} {e:Env} {H:ko} {ops:Array Oper} {rest:List Oper} {d ty:Nat} {pos:String} {af:Array Edge}
theorem Ql {sT T by_ m c2:Nat} {s:Operand} {y:Ent} {p2:Option Addr} {xs zs:List Value} {w0:World} (i:Nat) (hy:H[i]? =some y) (hO:Own T sz y p l c xs)
  (hu:∀w,(underlying sT).run P w=.ok (.slice T) w) (hT:ElT P T sz by_) (hby:Nat.ble by_ 1000=true)
  (hs:ev e s=some (.slice p l c)) (hxv:ev e x=some (.slice p2 m c2)) (hx:SlV w0 sz (.slice p2 m c2) m zs) (hk:∀w,f.ok w→vQ w0 w) (hsc:zs.all scal=true) (hbig:l+m≤100000000000) (hd:Nat.blt d n=true)
  (k:∀y' p' c',Own T sz y' p' (l+m) c' (xs++zs)→J P ops Q n f ((d,.slice p' (l+m) c')::e) (yn H i y') rest):
  J P ops Q n f e H (⟨some d,.call ⟨.builtin .append, #[s,x], #[sT,sT]⟩,ty,pos,af,none⟩::rest):=
 KU i hy hO.hT hO.ho hO.hw hu hu (.inl ⟨_,rfl⟩) hT hby hs hxv hO.sl (vJ _ _ _) (fun w w1 hH hf k=>hx.first w1 ((hk w hf).trans k)) hx.len hsc hbig hd fun y' p' c' h1 h2 h3 h4=>k y' p' c' ⟨h1,h2,h3,h4⟩
end
end Go.Fw
namespace Go.Proofs.YtifdadlhmlhfiaaGreatDoor
open Go Go.Fw Go.Proofs Go.Proofs.Tryz
theorem qfL (w:World) (v:Value) (l:Nat) (cs:List Value) (h:SlV w 10 v l cs) (hl:l≤1000) (hsc:cs.all scal=true):
  Calls Tryz.prog 51 #[v] w (Ret fun r w'=>(∃xs,(∃y p l c,r=.slice p l c∧Own 73 10 y p l c xs∧(y.on=true→Blk w' y.b 73 y.cs∧w.heap.size≤y.b))∧xs=cs)∧Fr 0 [] w w'):=by
 have hx:=h
 obtain ⟨p,c,rfl⟩:=h.parts
 refine jr (args:=[_]) [(0,_)] 0 [] [] Tryz.func51 rfl Tryz.ntmps51 rfl rfl .nil ?_
 refine sQ fun K1=>jb (jA (k:=K1 (sQ fun K2=>sQ fun K3=>jb (jM (k:=?_)))))
 refine jn rfl (fun _ _ h=>Vg ud24 rfl h) (K3 ?_)
 refine qZ rfl (fun h4=>?_) (fun h4=>?_)
 ·have hp:p=none:=by simpa using h4
  have hcs:cs=[]:=by
   obtain ⟨⟨q,d,e,h2,h3⟩,h5, -⟩:=hx
   cases e
   rcases h3 with h3|⟨b,o,h3, -⟩
   ·subst h3;exact List.eq_nil_of_length_eq_zero (by simpa using h5)
   ·rw[hp]at h3;cases h3
  refine sQ fun K4=>jb (jA (k:=K4 (jj ?_)))
  first
  |exact je Tryz.results51 rfl fun w' hH hf=>⟨⟨[],⟨qQ 73,none,0,0,rfl,Own.nil,fun h=>by simp[qQ]at h⟩,hcs.symm⟩,hf⟩
  |exact je Tryz.results51 rfl fun w' hH hf=>⟨⟨_,⟨y7,p7,_,c7,rfl,hO7,fun ho=>⟨by have:=hH.get (i:=0) rfl ho;rw[hO7.hT]at this;exact this,hH.fresh (i:=0) rfl ho hO7.hw⟩⟩,List.nil_append _⟩,hf⟩
 ·refine jg (K2 (sQ fun K5=>jb (vw JH Ky rfl fun b5=>jM (k:=?_))))
  refine Ql 0 rfl Own.empty JH qjL rfl rfl rfl hx (fun w hf=>hf.keepAll (.inr rfl)) hsc ox rfl fun y7 p7 c7 hO7=>?_
  refine jA (k:=K5 (jj ?_))
  first
  |exact je Tryz.results51 rfl fun w' hH hf=>⟨⟨[],⟨qQ 73,none,0,0,rfl,Own.nil,fun h=>by simp[qQ]at h⟩,hcs.symm⟩,hf⟩
  |exact je Tryz.results51 rfl fun w' hH hf=>⟨⟨_,⟨y7,p7,_,c7,rfl,hO7,fun ho=>⟨by have:=hH.get (i:=0) rfl ho;rw[hO7.hT]at this;exact this,hH.fresh (i:=0) rfl ho hO7.hw⟩⟩,List.nil_append _⟩,hf⟩
theorem qfP (w:World) (v:Value) (l:Nat) (cs:List Value) (h:SlV w 5 v l cs) (hl:l≤1000) (hsc:cs.all scal=true):
  Calls Tryz.prog 52 #[v] w (Ret fun r w'=>(∃xs,(∃y p l c,r=.slice p l c∧Own 80 5 y p l c xs∧(y.on=true→Blk w' y.b 80 y.cs∧w.heap.size≤y.b))∧xs=cs)∧Fr 0 [] w w'):=by
 have hx:=h
 obtain ⟨p,c,rfl⟩:=h.parts
 refine jr (args:=[_]) [(0,_)] 0 [] [] Tryz.func52 rfl Tryz.ntmps52 rfl rfl .nil ?_
 refine sQ fun K1=>jb (jA (k:=K1 (sQ fun K2=>sQ fun K3=>jb (jM (k:=?_)))))
 refine jn rfl (fun _ _ h=>Vg ud26 rfl h) (K3 ?_)
 refine qZ rfl (fun h4=>?_) (fun h4=>?_)
 ·have hp:p=none:=by simpa using h4
  have hcs:cs=[]:=by
   obtain ⟨⟨q,d,e,h2,h3⟩,h5, -⟩:=hx
   cases e
   rcases h3 with h3|⟨b,o,h3, -⟩
   ·subst h3;exact List.eq_nil_of_length_eq_zero (by simpa using h5)
   ·rw[hp]at h3;cases h3
  refine sQ fun K4=>jb (jA (k:=K4 (jj ?_)))
  first
  |exact je Tryz.results52 rfl fun w' hH hf=>⟨⟨[],⟨qQ 80,none,0,0,rfl,Own.nil,fun h=>by simp[qQ]at h⟩,hcs.symm⟩,hf⟩
  |exact je Tryz.results52 rfl fun w' hH hf=>⟨⟨_,⟨y7,p7,_,c7,rfl,hO7,fun ho=>⟨by have:=hH.get (i:=0) rfl ho;rw[hO7.hT]at this;exact this,hH.fresh (i:=0) rfl ho hO7.hw⟩⟩,List.nil_append _⟩,hf⟩
 ·refine jg (K2 (sQ fun K5=>jb (vw JF Kx rfl fun b5=>jM (k:=?_))))
  refine Ql 0 rfl Own.empty JF qjJ rfl rfl rfl hx (fun w hf=>hf.keepAll (.inr rfl)) hsc ox rfl fun y7 p7 c7 hO7=>?_
  refine jA (k:=K5 (jj ?_))
  first
  |exact je Tryz.results52 rfl fun w' hH hf=>⟨⟨[],⟨qQ 80,none,0,0,rfl,Own.nil,fun h=>by simp[qQ]at h⟩,hcs.symm⟩,hf⟩
  |exact je Tryz.results52 rfl fun w' hH hf=>⟨⟨_,⟨y7,p7,_,c7,rfl,hO7,fun ho=>⟨by have:=hH.get (i:=0) rfl ho;rw[hO7.hT]at this;exact this,hH.fresh (i:=0) rfl ho hO7.hw⟩⟩,List.nil_append _⟩,hf⟩
theorem qfN (w:World) (v:Value) (l:Nat) (cs:List Value) (h:SlV w 4 v l cs) (hl:l≤1000) (hsc:cs.all scal=true):
  Calls Tryz.prog 53 #[v] w (Ret fun r w'=>(∃xs,(∃y p l c,r=.slice p l c∧Own 77 4 y p l c xs∧(y.on=true→Blk w' y.b 77 y.cs∧w.heap.size≤y.b))∧xs=cs)∧Fr 0 [] w w'):=by
 have hx:=h
 obtain ⟨p,c,rfl⟩:=h.parts
 refine jr (args:=[_]) [(0,_)] 0 [] [] Tryz.func53 rfl Tryz.ntmps53 rfl rfl .nil ?_
 refine sQ fun K1=>jb (jA (k:=K1 (sQ fun K2=>sQ fun K3=>jb (jM (k:=?_)))))
 refine jn rfl (fun _ _ h=>Vg ud25 rfl h) (K3 ?_)
 refine qZ rfl (fun h4=>?_) (fun h4=>?_)
 ·have hp:p=none:=by simpa using h4
  have hcs:cs=[]:=by
   obtain ⟨⟨q,d,e,h2,h3⟩,h5, -⟩:=hx
   cases e
   rcases h3 with h3|⟨b,o,h3, -⟩
   ·subst h3;exact List.eq_nil_of_length_eq_zero (by simpa using h5)
   ·rw[hp]at h3;cases h3
  refine sQ fun K4=>jb (jA (k:=K4 (jj ?_)))
  first
  |exact je Tryz.results53 rfl fun w' hH hf=>⟨⟨[],⟨qQ 77,none,0,0,rfl,Own.nil,fun h=>by simp[qQ]at h⟩,hcs.symm⟩,hf⟩
  |exact je Tryz.results53 rfl fun w' hH hf=>⟨⟨_,⟨y7,p7,_,c7,rfl,hO7,fun ho=>⟨by have:=hH.get (i:=0) rfl ho;rw[hO7.hT]at this;exact this,hH.fresh (i:=0) rfl ho hO7.hw⟩⟩,List.nil_append _⟩,hf⟩
 ·refine jg (K2 (sQ fun K5=>jb (vw JG zg rfl fun b5=>jM (k:=?_))))
  refine Ql 0 rfl Own.empty JG qjK rfl rfl rfl hx (fun w hf=>hf.keepAll (.inr rfl)) hsc ox rfl fun y7 p7 c7 hO7=>?_
  refine jA (k:=K5 (jj ?_))
  first
  |exact je Tryz.results53 rfl fun w' hH hf=>⟨⟨[],⟨qQ 77,none,0,0,rfl,Own.nil,fun h=>by simp[qQ]at h⟩,hcs.symm⟩,hf⟩
  |exact je Tryz.results53 rfl fun w' hH hf=>⟨⟨_,⟨y7,p7,_,c7,rfl,hO7,fun ho=>⟨by have:=hH.get (i:=0) rfl ho;rw[hO7.hT]at this;exact this,hH.fresh (i:=0) rfl ho hO7.hw⟩⟩,List.nil_append _⟩,hf⟩
theorem qfK (w:World) (v:Value) (l:Nat) (cs:List Value) (h:SlV w 4 v l cs) (hl:l≤1000) (hsc:cs.all scal=true):
  Calls Tryz.prog 55 #[v] w (Ret fun r w'=>(∃xs,(∃y p l c,r=.slice p l c∧Own 57 4 y p l c xs∧(y.on=true→Blk w' y.b 57 y.cs∧w.heap.size≤y.b))∧xs=cs)∧Fr 0 [] w w'):=by
 have hx:=h
 obtain ⟨p,c,rfl⟩:=h.parts
 refine jr (args:=[_]) [(0,_)] 0 [] [] Tryz.func55 rfl Tryz.ntmps55 rfl rfl .nil ?_
 refine sQ fun K1=>jb (jA (k:=K1 (sQ fun K2=>sQ fun K3=>jb (jM (k:=?_)))))
 refine jn rfl (fun _ _ h=>Vg ud23 rfl h) (K3 ?_)
 refine qZ rfl (fun h4=>?_) (fun h4=>?_)
 ·have hp:p=none:=by simpa using h4
  have hcs:cs=[]:=by
   obtain ⟨⟨q,d,e,h2,h3⟩,h5, -⟩:=hx
   cases e
   rcases h3 with h3|⟨b,o,h3, -⟩
   ·subst h3;exact List.eq_nil_of_length_eq_zero (by simpa using h5)
   ·rw[hp]at h3;cases h3
  refine sQ fun K4=>jb (jA (k:=K4 (jj ?_)))
  first
  |exact je Tryz.results55 rfl fun w' hH hf=>⟨⟨[],⟨qQ 57,none,0,0,rfl,Own.nil,fun h=>by simp[qQ]at h⟩,hcs.symm⟩,hf⟩
  |exact je Tryz.results55 rfl fun w' hH hf=>⟨⟨_,⟨y7,p7,_,c7,rfl,hO7,fun ho=>⟨by have:=hH.get (i:=0) rfl ho;rw[hO7.hT]at this;exact this,hH.fresh (i:=0) rfl ho hO7.hw⟩⟩,List.nil_append _⟩,hf⟩
 ·refine jg (K2 (sQ fun K5=>jb (vw KA zC rfl fun b5=>jM (k:=?_))))
  refine Ql 0 rfl Own.empty KA qlL rfl rfl rfl hx (fun w hf=>hf.keepAll (.inr rfl)) hsc ox rfl fun y7 p7 c7 hO7=>?_
  refine jA (k:=K5 (jj ?_))
  first
  |exact je Tryz.results55 rfl fun w' hH hf=>⟨⟨[],⟨qQ 57,none,0,0,rfl,Own.nil,fun h=>by simp[qQ]at h⟩,hcs.symm⟩,hf⟩
  |exact je Tryz.results55 rfl fun w' hH hf=>⟨⟨_,⟨y7,p7,_,c7,rfl,hO7,fun ho=>⟨by have:=hH.get (i:=0) rfl ho;rw[hO7.hT]at this;exact this,hH.fresh (i:=0) rfl ho hO7.hw⟩⟩,List.nil_append _⟩,hf⟩
theorem qfO (w:World) (v:Value) (l:Nat) (cs:List Value) (h:SlV w 1 v l cs) (hl:l≤1000) (hsc:cs.all scal=true):
  Calls Tryz.prog 56 #[v] w (Ret fun r w'=>(∃xs,(∃y p l c,r=.slice p l c∧Own 3 1 y p l c xs∧(y.on=true→Blk w' y.b 3 y.cs∧w.heap.size≤y.b))∧xs=cs)∧Fr 0 [] w w'):=by
 have hx:=h
 obtain ⟨p,c,rfl⟩:=h.parts
 refine jr (args:=[_]) [(0,_)] 0 [] [] Tryz.func56 rfl Tryz.ntmps56 rfl rfl .nil ?_
 refine sQ fun K1=>jb (jA (k:=K1 (sQ fun K2=>sQ fun K3=>jb (jM (k:=?_)))))
 refine jn rfl (fun _ _ h=>Vg ud32 rfl h) (K3 ?_)
 refine qZ rfl (fun h4=>?_) (fun h4=>?_)
 ·have hp:p=none:=by simpa using h4
  have hcs:cs=[]:=by
   obtain ⟨⟨q,d,e,h2,h3⟩,h5, -⟩:=hx
   cases e
   rcases h3 with h3|⟨b,o,h3, -⟩
   ·subst h3;exact List.eq_nil_of_length_eq_zero (by simpa using h5)
   ·rw[hp]at h3;cases h3
  refine sQ fun K4=>jb (jA (k:=K4 (jj ?_)))
  first
  |exact je Tryz.results56 rfl fun w' hH hf=>⟨⟨[],⟨qQ 3,none,0,0,rfl,Own.nil,fun h=>by simp[qQ]at h⟩,hcs.symm⟩,hf⟩
  |exact je Tryz.results56 rfl fun w' hH hf=>⟨⟨_,⟨y7,p7,_,c7,rfl,hO7,fun ho=>⟨by have:=hH.get (i:=0) rfl ho;rw[hO7.hT]at this;exact this,hH.fresh (i:=0) rfl ho hO7.hw⟩⟩,List.nil_append _⟩,hf⟩
 ·refine jg (K2 (sQ fun K5=>jb (vw QC so3 rfl fun b5=>jM (k:=?_))))
  refine Ql 0 rfl Own.empty QC el3 rfl rfl rfl hx (fun w hf=>hf.keepAll (.inr rfl)) hsc ox rfl fun y7 p7 c7 hO7=>?_
  refine jA (k:=K5 (jj ?_))
  first
  |exact je Tryz.results56 rfl fun w' hH hf=>⟨⟨[],⟨qQ 3,none,0,0,rfl,Own.nil,fun h=>by simp[qQ]at h⟩,hcs.symm⟩,hf⟩
  |exact je Tryz.results56 rfl fun w' hH hf=>⟨⟨_,⟨y7,p7,_,c7,rfl,hO7,fun ho=>⟨by have:=hH.get (i:=0) rfl ho;rw[hO7.hT]at this;exact this,hH.fresh (i:=0) rfl ho hO7.hw⟩⟩,List.nil_append _⟩,hf⟩
theorem qfM (w:World) (v:Value) (l:Nat) (cs:List Value) (h:SlV w 2 v l cs) (hl:l≤1000) (hsc:cs.all scal=true):
  Calls Tryz.prog 91 #[v] w (Ret fun r w'=>(∃xs,(∃y p l c,r=.slice p l c∧Own 114 2 y p l c xs∧(y.on=true→Blk w' y.b 114 y.cs∧w.heap.size≤y.b))∧xs=cs)∧Fr 0 [] w w'):=by
 have hx:=h
 obtain ⟨p,c,rfl⟩:=h.parts
 refine jr (args:=[_]) [(0,_)] 0 [] [] Tryz.func91 rfl Tryz.ntmps91 rfl rfl .nil ?_
 refine sQ fun K1=>jb (jA (k:=K1 (sQ fun K2=>sQ fun K3=>jb (jM (k:=?_)))))
 refine jn rfl (fun _ _ h=>Vg ud75 rfl h) (K3 ?_)
 refine qZ rfl (fun h4=>?_) (fun h4=>?_)
 ·have hp:p=none:=by simpa using h4
  have hcs:cs=[]:=by
   obtain ⟨⟨q,d,e,h2,h3⟩,h5, -⟩:=hx
   cases e
   rcases h3 with h3|⟨b,o,h3, -⟩
   ·subst h3;exact List.eq_nil_of_length_eq_zero (by simpa using h5)
   ·rw[hp]at h3;cases h3
  refine sQ fun K4=>jb (jA (k:=K4 (jj ?_)))
  first
  |exact je Tryz.results91 rfl fun w' hH hf=>⟨⟨[],⟨qQ 114,none,0,0,rfl,Own.nil,fun h=>by simp[qQ]at h⟩,hcs.symm⟩,hf⟩
  |exact je Tryz.results91 rfl fun w' hH hf=>⟨⟨_,⟨y7,p7,_,c7,rfl,hO7,fun ho=>⟨by have:=hH.get (i:=0) rfl ho;rw[hO7.hT]at this;exact this,hH.fresh (i:=0) rfl ho hO7.hw⟩⟩,List.nil_append _⟩,hf⟩
 ·refine jg (K2 (sQ fun K5=>jb (vw Kz zU rfl fun b5=>jM (k:=?_))))
  refine Ql 0 rfl Own.empty Kz qku rfl rfl rfl hx (fun w hf=>hf.keepAll (.inr rfl)) hsc ox rfl fun y7 p7 c7 hO7=>?_
  refine jA (k:=K5 (jj ?_))
  first
  |exact je Tryz.results91 rfl fun w' hH hf=>⟨⟨[],⟨qQ 114,none,0,0,rfl,Own.nil,fun h=>by simp[qQ]at h⟩,hcs.symm⟩,hf⟩
  |exact je Tryz.results91 rfl fun w' hH hf=>⟨⟨_,⟨y7,p7,_,c7,rfl,hO7,fun ho=>⟨by have:=hH.get (i:=0) rfl ho;rw[hO7.hT]at this;exact this,hH.fresh (i:=0) rfl ho hO7.hw⟩⟩,List.nil_append _⟩,hf⟩
end Go.Proofs.YtifdadlhmlhfiaaGreatDoor
namespace Go.Fw
open Go
variable {sz:Nat} {v:Value} {w:World}
section
variable {n:Nat} {e:Env} {d ty:Nat} {pos:String} {af:Array Edge} {P:Program}
theorem qlb {t1 t2:Nat} {x y:Operand} {k k':IntKind} {p q:Int} (hx:ev e x=some (.int k p)) (hy:ev e y=some (.int k' q)) {a:Act} (ha:Sat n e a):
  (execOp a.eval ⟨some d,.call ⟨.builtin .max, #[x,y], #[t1,t2]⟩,ty,pos,af,none⟩).run P w=.ok (.value (.int k (if p<q then q else p))) w:=by
 simp only[execOp]
 simp[resolve,invoke,builtin,Builtin.max_,Builtin.max2,ha.ev hx,ha.ev hy]
end
theorem Lay.slvX {α β:Type} {R:World→List Value→α→Prop} {xs:List α} {g:β→List Value} {f:β→α} (h:Lay R sz w v xs) (hR:∀c x,R w c x→∃b,c=g b∧f b=x):∃bs:List β,bs.map f=xs∧SlV w sz v xs.length (bs.flatMap g)∧∀b∈bs,R w (g b) (f b):=by
 obtain ⟨cs,h1,h2, -,h4⟩:=h
 have key:∀(cs:List (List Value)) (xs:List α),cs.length=xs.length→(∀(i:Nat) (c:List Value) (x:α),cs[i]? =some c→xs[i]? =some x→R w c x)→∃bs:List β,bs.map f=xs∧cs=bs.map g∧∀b∈bs,R w (g b) (f b):=by
  intro cs
  induction cs with
  |nil=>
   intro xs hl _
   have:xs=[]:=List.eq_nil_of_length_eq_zero (by simpa using hl.symm)
   subst this
   exact ⟨[],rfl,rfl,fun b hb=>(by cases hb)⟩
  |cons a r ih=>
   intro xs hl hh
   cases xs with
   |nil=>simp at hl
   |cons x ys=>
    obtain ⟨bs,e1,e2,e3⟩:=ih ys (by simpa using hl) fun i c z hc hz=>hh (i+1) c z (by simpa using hc) (by simpa using hz)
    have h0:=hh 0 a x rfl rfl
    obtain ⟨b,rfl,e5⟩:=hR a x h0
    refine ⟨b::bs,by simp[e1,e5],by simp[e2],fun q hq=>?_⟩
    rcases mC hq with rfl|hq
    ·rw[e5];exact h0
    ·exact e3 q hq
 obtain ⟨bs,e1,e2,e3⟩:=key cs xs h2 h4
 subst e2
 exact ⟨bs,e1,by rw[List.flatMap_def];exact h1,e3⟩
theorem Lay.slv {α:Type} {R:World→List Value→α→Prop} {xs:List α} {g:α→List Value} (h:Lay R sz w v xs) (hR:∀c x,R w c x→c=g x):SlV w sz v xs.length (xs.flatMap g):=by
 obtain ⟨bs,e1,h1, -⟩:=h.slvX (g:=g) (f:=fun x=>x) fun c x hx=>⟨x,hR c x hx,rfl⟩
 rw[List.map_id']at e1
 subst e1;exact h1
theorem za {α:Type} {g:α→List Value}:∀{xs:List α},(∀x∈xs,(g x).all scal=true)→(xs.flatMap g).all scal=true
 |[],_=>rfl
 |a::r,h=>by
    rw[List.flatMap_cons,List.all_append,h a (List.mem_cons_self ..),za fun x hx=>h x (List.mem_cons_of_mem _ hx)];rfl
theorem Lay.sc {α:Type} {R:World→List Value→α→Prop} {xs:List α} (h:Lay R sz w v xs):scal v=true:=by
 obtain ⟨cs,⟨⟨p,c,rfl, -⟩, -⟩, -⟩:=h
 rfl
end Go.Fw
namespace Go.Proofs.YtifdadlhmlhfiaaGreatDoor
open Go Go.Fw Go.Proofs Go.Proofs.Tryz
variable {k n:Nat}
def Xm (n:Nat) (ls:List vz) (k:Nat):List Value:=(ls.take k).flatMap (fun l=>KV (Xk n l))++(ls.drop k).flatMap KV
theorem qfn {ls:List vz}:Xm n ls 0=ls.flatMap KV:=by simp[Xm]
theorem qfo {ls:List vz} (h:ls.length≤k):Xm n ls k=(ls.map (Xk n)).flatMap KV:=by
 unfold Xm;rw[tL h,List.drop_eq_nil_of_le h,List.flatMap_map];simp
theorem Xl {ls:List vz} (h:k<ls.length):((ls.take k).flatMap (fun l=>KV (Xk n l))).length=k*2:=by
 rw[qw (sz:=2) (fun _=>rfl),List.length_take,Nat.min_eq_left (Nat.le_of_lt h)]
theorem VW {ls:List vz} (h:k<ls.length):Xm n ls k=(ls.take k).flatMap (fun l=>KV (Xk n l))++(KV ls[k]++(ls.drop (k+1)).flatMap KV):=by
 unfold Xm;rw[List.drop_eq_getElem_cons h,List.flatMap_cons]
theorem qao {ls:List vz} (h:k<ls.length):Xm n ls (k+1)=(ls.take k).flatMap (fun l=>KV (Xk n l))++(KV (Xk n ls[k])++(ls.drop (k+1)).flatMap KV):=by
 unfold Xm;rw[← tG h,List.flatMap_append];simp
theorem qhb {ls:List vz} (h:k<ls.length):(Xm n ls k)[k*2]? =some (.int .i64 ls[k].fn):=by
 rw[VW h,List.getElem?_append_right (by rw[Xl h];exact Nat.le_refl _),Xl h,Nat.sub_self];rfl
theorem qct {ls:List vz} (h:k<ls.length) (h0:0≤ls[k].fn):(Xm n ls k).set (k*2) (.int .i64 (ls[k].fn+(n:Nat)))=Xm n ls (k+1):=by
 rw[VW h,qao h,List.set_append_right _ _ (by rw[Xl h];exact Nat.le_refl _),Xl h,Nat.sub_self]
 unfold KV Xk
 simp only[if_pos h0]
 rfl
theorem qan {ls:List vz} (h:k<ls.length) (h0:¬0≤ls[k].fn):Xm n ls k=Xm n ls (k+1):=by
 rw[VW h,qao h]
 unfold Xk
 simp only[if_neg h0]
set_option maxHeartbeats 1000000 in
theorem qjb (w:World) (l:vP) (lv:Value) (m n:Nat) (hl:Lay JD 2 w lv l.lines) (hm: -1≤l.mapping∧l.mapping<1000) (hlen:l.lines.length≤1000) (hfn:∀z∈l.lines, -1≤z.fn∧z.fn<1000) (hm0:m≤1000) (hn0:n≤1000):
  Calls Tryz.prog 54 #[.agg (List.toArray [.int .u64 l.id,.int .i64 l.mapping,.int .u64 l.addr,lv]),.int .i64 (m:Nat),.int .i64 (n:Nat)] w (Ret fun v w'=>(∃lv',v=.agg (List.toArray (JM (yf m n l,lv')))∧OS tLn 2 w' lv' ((yf m n l).lines.flatMap KV))∧Fr 0 [] w w'):=by
 have hS:=hl.slv (g:=KV) fun c x h=>h.1
 obtain ⟨pl,cl,rfl, -⟩:=hl.open
 refine jr (args:=[_,_,_]) [(0,.agg (List.toArray [_,_,_,_])),(1,_),(2,_)] 0 [] [] Tryz.func54 rfl Tryz.ntmps54 rfl rfl .nil ?_
 refine sQ fun K1=>jb (qA (vs:=[_,_,_,_]) rfl rfl fun b3=>jW (zs:=[(.int .u64 0),(.int .i64 0),(.int .u64 0),(.slice none 0 0)]) YL rfl fun b6=>K1 (qP fun K2 hK2=>?_))
 have hJ10:∀(z:Int) (v':World),z=(yf m n l).mapping→Fm.ok ⟨w,0,[]⟩ v'→Hp ⟨w,0,[]⟩ v' [⟨b6,tLc,[.int .u64 0,.int .i64 0,.int .u64 0,.slice none 0 0],true,true,none⟩,⟨b3,tLc,[.int .u64 l.id,.int .i64 z,.int .u64 l.addr,.slice pl l.lines.length cl],true,true,none⟩]→N K2 45 [(2,.int .i64 (n:Nat)),(3,.pointer (some ⟨b3,0,none⟩)),(6,.pointer (some ⟨b6,0,none⟩))] v':=by
  intro z v7 hz hf7 hH7
  refine hK2 ⟨w,0,[]⟩ _ [⟨b6,tLc,[.int .u64 0,.int .i64 0,.int .u64 0,.slice none 0 0],true,true,none⟩,⟨b3,tLc,[.int .u64 l.id,.int .i64 z,.int .u64 l.addr,.slice pl l.lines.length cl],true,true,none⟩] ?_ v7 hH7 hf7
  refine sQ fun K3=>jb (jF 3 zr Vx (k:=jH 1 Yt (k:=?_)))
  refine Vo (T:=tLn) (sz:=2) (φ:=fun xs=>xs=l.lines.flatMap KV) Tryz.call91 rfl rfl (fun w' hH hf=>qfM w' _ _ _ (hS.keep (hf.keepAll (.inr rfl))) hlen (za fun _ _=>rfl)) ?_
  rintro yC pC lC cC _ hOC rfl
  obtain rfl:lC=l.lines.length:=by have:=hOC.sl.1;rw[qw (sz:=2) (fun _=>rfl)]at this;omega
  refine jF 3 zr Vx (k:=jB [_,_,_,_] [_,_,_] 2 Vx (k:=K3 (sQ fun K4=>sQ fun K5=>jb (jF 3 zr Vx (k:=jH 2 Yt (k:=jE Kz (k:=jM (k:=K5 (CJ.t [(2,_),(3,_),(6,_),(22,_),(23,_)] (k:=jh ?_))))))))))
  refine jZ (σ:=Nat×Ent) (fun s=>[(2,.int .i64 (n:Nat)),(3,.pointer (some ⟨b3,0,none⟩)),(6,.pointer (some ⟨b6,0,none⟩)),(22,.int .i64 (l.lines.length:Nat)),(23,.int .i64 (s.1:Nat))])
   (fun s=>[s.2,⟨b6,tLc,[.int .u64 0,.int .i64 0,.int .u64 0,.slice none 0 0],true,true,none⟩,⟨b3,tLc,[.int .u64 l.id,.int .i64 z,.int .u64 l.addr,.slice pC l.lines.length cC],true,true,none⟩])
   (fun s _=>s.1≤l.lines.length∧Own tLn 2 s.2 pC l.lines.length cC (Xm n l.lines s.1)) (fun s=>l.lines.length - s.1)
   (0,yC) sR (fun w' hH hf=>⟨hH,Nat.zero_le _,by rw[qfn];exact hOC⟩) ?_
  rintro ⟨k,yk⟩ wk ⟨hk,hOk⟩ hfk hHk KLk hKLk
  try dsimp only at hk hOk
  refine C.begin _ _ hfk hHk ?_
  try dsimp only
  refine sQ fun K6=>jb (jS (k:=K6 (sQ fun K7=>?_)))
  refine jq rfl (fun h24=>?_) (fun h24=>?_)
  ·have hk':k<l.lines.length:=by omega
   have hg0:=qhb (n:=n) hk'
   obtain ⟨hon,hpe,hcy⟩:=hOk.at_ hg0
   have hlt:=(List.getElem?_eq_some_iff.1 hg0).1
   have hlc:=(List.getElem?_eq_some_iff.1 hcy).1
   obtain ⟨hf1,hf2⟩:=hfn _ (List.getElem_mem hk')
   refine jg (K7 (sQ fun K8=>jh (sQ fun K9=>jb (jM (k:=jA (k:=K9 (sQ fun K10=>jb (jF 3 zr Vx (k:=jH 2 Yt (k:=jM (k:=?_)))))))))))
   refine jn rfl (fun _ _ h=>zZ k Kz zU rfl hpe rfl rfl hk' h) (jF 0 QP so3 (k:=?_))
   refine jp rfl (fun a w ha hH hf=>kP ag3 rfl (by have hb:=hH.get (i:=0) rfl hon;rw[Nat.zero_add,Nat.add_zero,hb.cell];exact hcy) ha) ?_
   refine jn rfl (fun _ _ h=>Jl rfl rfl h) (K10 ?_)
   refine jq rfl (fun h32=>?_) (fun h32=>?_)
   ·refine jb (jF 3 zr Vx (k:=jH 2 Yt (k:=jM (k:=?_))))
    refine jn rfl (fun _ _ h=>zZ k Kz zU rfl hpe rfl rfl hk' h) (jF 0 QP so3 (k:=?_))
    refine jp rfl (fun a w ha hH hf=>kP ag3 rfl (by have hb:=hH.get (i:=0) rfl hon;rw[Nat.zero_add,Nat.add_zero,hb.cell];exact hcy) ha) ?_
    refine jM (k:=?_)
    refine jn rfl (fun _ _ h=>Yj rfl rfl h) ?_
    refine jV (u:=.int .i64 (l.lines[k].fn+(n:Nat))) (congrArg (Value.int .i64) (kG ox ox)) ?_
    refine jn rfl (fun _ _ h=>zZ k Kz zU rfl hpe rfl rfl hk' h) (jF 0 QP so3 (k:=?_))
    refine QV (y:=yk) (o:=0+k*2+0) 0 rfl hon hOk.ho hOk.hw so3 rfl rfl rfl rfl ox ?_
    refine K8 (CJ.t [(2,_),(3,_),(6,_),(22,_),(23,_)] (k:=jb (jI (k:=jM (k:=jw (ji ?_))))))
    first
     |exact fun w' hH hf=>hKLk (k+1,⟨yk.b,yk.T,kH yk.cs (0+k*2+0) [.int .i64 (l.lines[k].fn+(n:Nat))],true,true,none⟩) _ w' ⟨hk',by
        have h:=hOk.put (o:=k*2) (v:=.int .i64 (l.lines[k].fn+(n:Nat))) hlt
        rw[qct hk' h32]at h
        simpa using h⟩ hf hH (by simp only;omega) ⟨rfl,rfl,rfl,rfl,rfl,trivial⟩
     |exact fun w' hH hf=>hKLk (k+1,yk) _ w' ⟨hk',by rw[← qan hk' h32];exact hOk⟩ hf hH (by simp only;omega) ⟨rfl,rfl,rfl,rfl,rfl,trivial⟩
   ·refine jg (K8 (jb (jI (k:=jM (k:=jw (ji ?_))))))
    first
     |exact fun w' hH hf=>hKLk (k+1,⟨yk.b,yk.T,kH yk.cs (0+k*2+0) [.int .i64 (l.lines[k].fn+(n:Nat))],true,true,none⟩) _ w' ⟨hk',by
        have h:=hOk.put (o:=k*2) (v:=.int .i64 (l.lines[k].fn+(n:Nat))) hlt
        rw[qct hk' h32]at h
        simpa using h⟩ hf hH (by simp only;omega) ⟨rfl,rfl,rfl,rfl,rfl,trivial⟩
     |exact fun w' hH hf=>hKLk (k+1,yk) _ w' ⟨hk',by rw[← qan hk' h32];exact hOk⟩ hf hH (by simp only;omega) ⟨rfl,rfl,rfl,rfl,rfl,trivial⟩
  ·have hke:k=l.lines.length:=by omega
   rw[qfo ox]at hOk
   refine jt (K4 (sQ fun K11=>jb (jp rfl (fun a w ha hH hf=>vo (vs:=[_,_,_,_]) 2 rfl rfl XA zg rfl rfl rfl ha hH) ?_)))
   refine yt 1 rfl rfl rfl rfl zg rfl rfl rfl rfl rfl ?_
   refine K11 (jj ?_)
   exact Zs Tryz.results54 XA zg rfl rfl (fun w' hH hf=>⟨_,hH.get (i:=1) rfl rfl⟩) fun w' hH hf=>⟨⟨.slice pC l.lines.length cC,by subst hz;rfl,hOk.os hH (i:=0) rfl⟩,hf⟩
 clear hK2
 refine sQ fun K12=>jb (jF 1 zr so3 (k:=jH 1 ag3 (k:=?_)))
 refine jn rfl (fun _ _ h=>Jl rfl rfl h) (K12 ?_)
 refine jq rfl (fun h10=>?_) (fun h10=>?_)
 ·refine jb (jF 1 zr so3 (k:=jH 1 ag3 (k:=jM (k:=?_))))
  refine jn rfl (fun _ _ h=>Yj rfl rfl h) ?_
  refine jV (u:=.int .i64 (l.mapping+(m:Nat))) (congrArg (Value.int .i64) (kG ox ox)) ?_
  refine jF 1 zr so3 (k:=jB [_,_,_,_] [_,_] 1 so3 (k:=jw (ji ?_)))
  first
  |exact fun v' hH hf=>N.sub' (hJ10 (l.mapping+(m:Nat)) v' (by unfold yf;simp only[if_pos h10]) hf hH) ⟨rfl,rfl,rfl,trivial⟩
  |exact fun v' hH hf=>N.sub' (hJ10 l.mapping v' (by unfold yf;simp only[if_neg h10]) hf hH) ⟨rfl,rfl,rfl,trivial⟩
 ·refine jg (ji ?_)
  first
  |exact fun v' hH hf=>N.sub' (hJ10 (l.mapping+(m:Nat)) v' (by unfold yf;simp only[if_pos h10]) hf hH) ⟨rfl,rfl,rfl,trivial⟩
  |exact fun v' hH hf=>N.sub' (hJ10 l.mapping v' (by unfold yf;simp only[if_neg h10]) hf hH) ⟨rfl,rfl,rfl,trivial⟩
theorem ZV (w:World) (cs:List Value) (x:xn) (h:xz w cs x):Calls Tryz.prog 24 #[.agg cs.toArray] w (Ret fun v w'=>(∃b,v=.bool b)∧Fr 0 [] w w'):=by
 unfold xz at h
 subst h
 refine jr (args:=[_]) [(0,_)] 0 [] [] func24 rfl ntmps24 rfl rfl .nil ?_
 refine sQ fun K1=>jb (qA (vs:=[_,_]) rfl rfl fun b1=>jA (k:=K1 (sQ fun K2=>sQ fun K3=>jb (jF 0 qiF so9 (k:=jH 0 ag9 (k:=?_))))))
 refine jn rfl (fun _ _ h=>zI ru9 rfl h) (jG (k:=K3 ?_))
 refine jq rfl (fun _=>?_) (fun _=>?_)
 ·refine sQ fun K4=>jb (jA (k:=K4 (jj ?_)))
  exact je results24 rfl fun w' hH hf=>⟨⟨_,rfl⟩,hf⟩
 ·refine jg (K2 (sQ fun K5=>sQ fun K6=>jb (jF 1 qiF so9 (k:=jH 0 ag9 (k:=?_)))))
  refine jn rfl (fun _ _ h=>zI ru9 rfl h) (jG (k:=K6 (CJ.t [(10,_)] (k:=?_))))
  refine jq rfl (fun _=>?_) (fun _=>?_)
  ·refine sQ fun K7=>jb (jA (k:=K7 (jj ?_)))
   exact je results24 rfl fun w' hH hf=>⟨⟨_,rfl⟩,hf⟩
  ·refine jg (K5 (sQ fun K8=>jb (jA (k:=K8 (jj ?_)))))
   exact je results24 rfl fun w' hH hf=>⟨⟨_,rfl⟩,hf⟩
theorem qeQ (w:World) (v:Value) (xs:List xn) (h:Lay xz 2 w v xs):Calls Tryz.prog 18 #[v] w (Ret fun v w'=>(∃b,v=.bool b∧(b=true→xs.length≤2147483647))∧Fr 0 [] w w'):=by
 obtain ⟨p,c,rfl,hl,hx⟩:=h.open
 refine jr (args:=[_]) [(0,_)] 0 [] [] func18 rfl ntmps18 rfl rfl .nil ?_
 refine sQ fun K1=>jb (jA (k:=K1 (sQ fun K2=>sQ fun K3=>jb (jM (k:=jE KI (k:=jG (k:=K3 ?_)))))))
 refine jq rfl (fun hbig=>?_) (fun hbig=>?_)
 ·refine sQ fun K4=>jb (jA (k:=K4 (jj ?_)))
  exact je results18 rfl fun w' hH hf=>⟨⟨_,rfl,by first|(intro h;exact absurd h dq)|(intro _;omega)⟩,hf⟩
 ·refine jg (K2 (sQ fun K5=>sQ fun K6=>jb (jM (k:=jE KI (k:=jM (k:=K6 (jh ?_)))))))
  refine jZ (σ:=Nat) (fun k=>[(8,.slice p xs.length c),(9,.int .i64 (xs.length:Nat)),(10,.int .i64 (k:Nat))]) (fun _=>[]) (fun k _=>k≤xs.length) (fun k=>xs.length - k) 0 sR (fun w hH hf=>⟨.nil,Nat.zero_le _⟩) ?_
  intro k w1 hk hf1 hH1 KL hKL
  refine C.begin _ [] hf1 .nil ?_
  refine sQ fun K7=>jb (jS (k:=K7 (sQ fun K8=>?_)))
  refine jq rfl (fun hlt=>?_) (fun hlt=>?_)
  ·have hlt':k<xs.length:=by omega
   obtain ⟨b,o,cs,rfl,hcs,hR,hcell⟩:=hx k xs[k] (gE hlt')
   have hR':=hR
   unfold xz at hR
   subst hR
   refine jg (K8 (sQ fun K9=>jh (sQ fun K10=>jb (jJ KI zq (k:=?_)))))
   refine jp rfl (fun a w ha hH hf=>kD XB zq rfl rfl (hcell w (hf.keepAll (.inr rfl))) ha) (jW (zs:=[(.string ⟨#[]⟩),(.string ⟨#[]⟩)]) qkF rfl fun b4=>jB [_,_] [_] 0 zq (k:=K10 (sQ fun K11=>jb ?_)))
   refine jp rfl (fun a w ha hH hf=>vo (vs:=[_,_]) 0 rfl rfl XB zq rfl rfl rfl ha hH) ?_
   refine kg (φ:=fun v=>∃b,v=.bool b) call24 rfl rfl (fun w hH hf=>ZV w _ _ (xz.keep (hf.keepAll (.inr rfl)) _ _ hR')) ?_
   rintro _ ⟨b15,rfl⟩
   refine jU (k:=K11 ?_)
   refine qZ rfl (fun _=>?_) (fun _=>?_)
   ·refine sQ fun K12=>jb (jA (k:=K12 (jj ?_)))
    exact je results18 rfl fun w' hH hf=>⟨⟨_,rfl,by first|(intro h;exact absurd h dq)|(intro _;omega)⟩,hf⟩
   ·refine jg (K9 (jb (jI (k:=jM (k:=jw (ji ?_))))))
    exact fun w hH hf=>hKL (k+1) _ w hlt' hf .nil ox sR
  ·refine jt (K5 (CJ.t [] (k:=sQ fun K13=>jb (jA (k:=K13 (jj ?_))))))
   exact je results18 rfl fun w' hH hf=>⟨⟨_,rfl,by first|(intro h;exact absurd h dq)|(intro _;omega)⟩,hf⟩
theorem ZU (w:World) (v:Value) (xs:List ByteArray) (h:Lay xa 1 w v xs):Calls Tryz.prog 23 #[v] w (Ret fun v w'=>(∃b,v=.bool b∧(b=true→xs.length≤2147483647))∧Fr 0 [] w w'):=by
 obtain ⟨p,c,rfl,hl,hx⟩:=h.open
 refine jr (args:=[_]) [(0,_)] 0 [] [] func23 rfl ntmps23 rfl rfl .nil ?_
 refine sQ fun K1=>jb (jA (k:=K1 (sQ fun K2=>sQ fun K3=>jb (jM (k:=jE vG (k:=jG (k:=K3 ?_)))))))
 refine jq rfl (fun hbig=>?_) (fun hbig=>?_)
 ·refine sQ fun K4=>jb (jA (k:=K4 (jj ?_)))
  exact je results23 rfl fun w' hH hf=>⟨⟨_,rfl,by first|(intro h;exact absurd h dq)|(intro _;omega)⟩,hf⟩
 ·refine jg (K2 (sQ fun K5=>sQ fun K6=>jb (jM (k:=jE vG (k:=jM (k:=K6 (jh ?_)))))))
  refine jZ (σ:=Nat) (fun k=>[(8,.slice p xs.length c),(9,.int .i64 (xs.length:Nat)),(10,.int .i64 (k:Nat))]) (fun _=>[]) (fun k _=>k≤xs.length) (fun k=>xs.length - k) 0 sR (fun w hH hf=>⟨.nil,Nat.zero_le _⟩) ?_
  intro k w1 hk hf1 hH1 KL hKL
  refine C.begin _ [] hf1 .nil ?_
  refine sQ fun K7=>jb (jS (k:=K7 (sQ fun K8=>?_)))
  refine jq rfl (fun hlt=>?_) (fun hlt=>?_)
  ·have hlt':k<xs.length:=by omega
   obtain ⟨b,o,cs,rfl,hcs,hR,hcell⟩:=hx k xs[k] (gE hlt')
   unfold xa at hR
   subst hR
   refine jg (K8 (sQ fun K9=>jh (sQ fun K10=>jb (jJ vG so9 (k:=?_)))))
   refine jp rfl (fun a w ha hH hf=>kP ag9 rfl (hcell w (hf.keepAll (.inr rfl)) 0 _ rfl) ha) (jA (k:=K10 (sQ fun K11=>jb (jM (k:=?_)))))
   refine jn rfl (fun _ _ h=>zI ru9 rfl h) (jG (k:=K11 ?_))
   refine jq rfl (fun _=>?_) (fun _=>?_)
   ·refine sQ fun K12=>jb (jA (k:=K12 (jj ?_)))
    exact je results23 rfl fun w' hH hf=>⟨⟨_,rfl,by first|(intro h;exact absurd h dq)|(intro _;omega)⟩,hf⟩
   ·refine jg (K9 (jb (jI (k:=jM (k:=jw (ji ?_))))))
    exact fun w hH hf=>hKL (k+1) _ w hlt' hf .nil ox sR
  ·refine jt (K5 (CJ.t [] (k:=sQ fun K13=>jb (jA (k:=K13 (jj ?_))))))
   exact je results23 rfl fun w' hH hf=>⟨⟨_,rfl,by first|(intro h;exact absurd h dq)|(intro _;omega)⟩,hf⟩
theorem qeM (w:World) (cs:List Value) (x:xB) (h:xA w cs x):Calls Tryz.prog 108 #[.agg cs.toArray] w (Ret fun v w'=>(∃b,v=.bool b)∧Fr 0 [] w w'):=by
 obtain ⟨la,rfl,hla⟩:=h
 refine jr (args:=[_]) [(0,_)] 0 [] [] func108 rfl ntmps108 rfl rfl .nil ?_
 refine sQ fun K1=>jb (qA (vs:=[_,_]) rfl rfl fun b1=>jA (k:=K1 (sQ fun K2=>sQ fun K3=>jb (jF 0 zW so9 (k:=jH 0 ag9 (k:=?_))))))
 refine jn rfl (fun _ _ h=>zI ru9 rfl h) (jG (k:=K3 ?_))
 refine jq rfl (fun _=>?_) (fun _=>?_)
 ·refine sQ fun K4=>jb (jA (k:=K4 (jj ?_)))
  exact je results108 rfl fun w' hH hf=>⟨⟨_,rfl⟩,hf⟩
 ·refine jg (K2 (sQ fun K5=>sQ fun K6=>jb (jF 1 zW xH (k:=jH 0 yv (k:=?_)))))
  refine kg (φ:=fun v=>∃b,v=.bool b∧(b=true→x.list.length≤2147483647)) call23 rfl rfl (fun w hH hf=>ZU w _ _ (hla.keep (xa.keep (hf.keepAll (.inr rfl))) (hf.keepAll (.inr rfl)))) ?_
  rintro _ ⟨b9,rfl,hb9⟩
  refine jU (k:=K6 (CJ.t [(10,_)] (k:=?_)))
  refine qZ rfl (fun _=>?_) (fun _=>?_)
  ·refine sQ fun K7=>jb (jA (k:=K7 (jj ?_)))
   exact je results108 rfl fun w' hH hf=>⟨⟨_,rfl⟩,hf⟩
  ·refine jg (K5 (sQ fun K8=>jb (jA (k:=K8 (jj ?_)))))
   exact je results108 rfl fun w' hH hf=>⟨⟨_,rfl⟩,hf⟩
theorem qeN (w:World) (v:Value) (xs:List xB) (h:Lay xA 2 w v xs):Calls Tryz.prog 92 #[v] w (Ret fun v w'=>(∃b,v=.bool b∧(b=true→xs.length≤2147483647))∧Fr 0 [] w w'):=by
 obtain ⟨p,c,rfl,hl,hx⟩:=h.open
 refine jr (args:=[_]) [(0,_)] 0 [] [] func92 rfl ntmps92 rfl rfl .nil ?_
 refine sQ fun K1=>jb (jA (k:=K1 (sQ fun K2=>sQ fun K3=>jb (jM (k:=jE VA (k:=jG (k:=K3 ?_)))))))
 refine jq rfl (fun hbig=>?_) (fun hbig=>?_)
 ·refine sQ fun K4=>jb (jA (k:=K4 (jj ?_)))
  exact je results92 rfl fun w' hH hf=>⟨⟨_,rfl,by first|(intro h;exact absurd h dq)|(intro _;omega)⟩,hf⟩
 ·refine jg (K2 (sQ fun K5=>sQ fun K6=>jb (jM (k:=jE VA (k:=jM (k:=K6 (jh ?_)))))))
  refine jZ (σ:=Nat) (fun k=>[(8,.slice p xs.length c),(9,.int .i64 (xs.length:Nat)),(10,.int .i64 (k:Nat))]) (fun _=>[]) (fun k _=>k≤xs.length) (fun k=>xs.length - k) 0 sR (fun w hH hf=>⟨.nil,Nat.zero_le _⟩) ?_
  intro k w1 hk hf1 hH1 KL hKL
  refine C.begin _ [] hf1 .nil ?_
  refine sQ fun K7=>jb (jS (k:=K7 (sQ fun K8=>?_)))
  refine jq rfl (fun hlt=>?_) (fun hlt=>?_)
  ·have hlt':k<xs.length:=by omega
   obtain ⟨b,o,cs,rfl,hcs,hR,hcell⟩:=hx k xs[k] (gE hlt')
   have hR':=hR
   obtain ⟨la,rfl,hla⟩:=hR
   obtain ⟨p1,c1,rfl,hl1, -⟩:=hla.open
   refine jg (K8 (sQ fun K9=>jh (sQ fun K10=>jb (jJ VA zl (k:=?_)))))
   refine jp rfl (fun a w ha hH hf=>kD XD zl rfl rfl (hcell w (hf.keepAll (.inr rfl))) ha) (jW (zs:=[(.string ⟨#[]⟩),(.slice none 0 0)]) ZY rfl fun b4=>jB [_,_] [_] 0 zl (k:=K10 (sQ fun K11=>jb ?_)))
   refine jp rfl (fun a w ha hH hf=>vo (vs:=[_,_]) 0 rfl rfl XD zl rfl rfl rfl ha hH) ?_
   refine kg (φ:=fun v=>∃b,v=.bool b) call108 rfl rfl (fun w hH hf=>qeM w _ _ (xA.keep (hf.keepAll (.inr rfl)) _ _ hR')) ?_
   rintro _ ⟨b15,rfl⟩
   refine jU (k:=K11 ?_)
   refine qZ rfl (fun _=>?_) (fun _=>?_)
   ·refine sQ fun K12=>jb (jA (k:=K12 (jj ?_)))
    exact je results92 rfl fun w' hH hf=>⟨⟨_,rfl,by first|(intro h;exact absurd h dq)|(intro _;omega)⟩,hf⟩
   ·refine jg (K9 (jb (jI (k:=jM (k:=jw (ji ?_))))))
    exact fun w hH hf=>hKL (k+1) _ w hlt' hf .nil ox sR
  ·refine jt (K5 (CJ.t [] (k:=sQ fun K13=>jb (jA (k:=K13 (jj ?_))))))
   exact je results92 rfl fun w' hH hf=>⟨⟨_,rfl,by first|(intro h;exact absurd h dq)|(intro _;omega)⟩,hf⟩
theorem qdf (w:World) (cs:List Value) (x:zf) (h:yW w cs x):Calls Tryz.prog 109 #[.agg cs.toArray] w (Ret fun v w'=>(∃b,v=.bool b)∧Fr 0 [] w w'):=by
 obtain ⟨la,rfl,hla⟩:=h
 obtain ⟨p1,c1,rfl,hl1, -⟩:=hla.open
 refine jr (args:=[_]) [(0,_)] 0 [] [] func109 rfl ntmps109 rfl rfl .nil ?_
 refine sQ fun K1=>jb (qA (vs:=[_,_]) rfl rfl fun b1=>jA (k:=K1 (sQ fun K2=>sQ fun K3=>jb (jF 0 JC so9 (k:=jH 0 ag9 (k:=?_))))))
 refine jn rfl (fun _ _ h=>zI ru9 rfl h) (jG (k:=K3 ?_))
 refine jq rfl (fun _=>?_) (fun _=>?_)
 ·refine sQ fun K4=>jb (jA (k:=K4 (jj ?_)))
  exact je results109 rfl fun w' hH hf=>⟨⟨_,rfl⟩,hf⟩
 ·refine jg (K2 (sQ fun K5=>sQ fun K6=>jb (jF 1 JC Jt (k:=jH 0 KC (k:=jE xI (k:=jG (k:=K6 (CJ.t [(10,_)] (k:=?_)))))))))
  refine jq rfl (fun _=>?_) (fun _=>?_)
  ·refine sQ fun K7=>jb (jA (k:=K7 (jj ?_)))
   exact je results109 rfl fun w' hH hf=>⟨⟨_,rfl⟩,hf⟩
  ·refine jg (K5 (sQ fun K8=>jb (jA (k:=K8 (jj ?_)))))
   exact je results109 rfl fun w' hH hf=>⟨⟨_,rfl⟩,hf⟩
theorem qeL (w:World) (v:Value) (xs:List zf) (h:Lay yW 2 w v xs):Calls Tryz.prog 93 #[v] w (Ret fun v w'=>(∃b,v=.bool b∧(b=true→xs.length≤2147483647))∧Fr 0 [] w w'):=by
 obtain ⟨p,c,rfl,hl,hx⟩:=h.open
 refine jr (args:=[_]) [(0,_)] 0 [] [] func93 rfl ntmps93 rfl rfl .nil ?_
 refine sQ fun K1=>jb (jA (k:=K1 (sQ fun K2=>sQ fun K3=>jb (jM (k:=jE Vz (k:=jG (k:=K3 ?_)))))))
 refine jq rfl (fun hbig=>?_) (fun hbig=>?_)
 ·refine sQ fun K4=>jb (jA (k:=K4 (jj ?_)))
  exact je results93 rfl fun w' hH hf=>⟨⟨_,rfl,by first|(intro h;exact absurd h dq)|(intro _;omega)⟩,hf⟩
 ·refine jg (K2 (sQ fun K5=>sQ fun K6=>jb (jM (k:=jE Vz (k:=jM (k:=K6 (jh ?_)))))))
  refine jZ (σ:=Nat) (fun k=>[(8,.slice p xs.length c),(9,.int .i64 (xs.length:Nat)),(10,.int .i64 (k:Nat))]) (fun _=>[]) (fun k _=>k≤xs.length) (fun k=>xs.length - k) 0 sR (fun w hH hf=>⟨.nil,Nat.zero_le _⟩) ?_
  intro k w1 hk hf1 hH1 KL hKL
  refine C.begin _ [] hf1 .nil ?_
  refine sQ fun K7=>jb (jS (k:=K7 (sQ fun K8=>?_)))
  refine jq rfl (fun hlt=>?_) (fun hlt=>?_)
  ·have hlt':k<xs.length:=by omega
   obtain ⟨b,o,cs,rfl,hcs,hR,hcell⟩:=hx k xs[k] (gE hlt')
   have hR':=hR
   obtain ⟨la,rfl,hla⟩:=hR
   obtain ⟨p1,c1,rfl,hl1, -⟩:=hla.open
   refine jg (K8 (sQ fun K9=>jh (sQ fun K10=>jb (jJ Vz zk (k:=?_)))))
   refine jp rfl (fun a w ha hH hf=>kD XC zk rfl rfl (hcell w (hf.keepAll (.inr rfl))) ha) (jW (zs:=[(.string ⟨#[]⟩),(.slice none 0 0)]) ZX rfl fun b4=>jB [_,_] [_] 0 zk (k:=K10 (sQ fun K11=>jb ?_)))
   refine jp rfl (fun a w ha hH hf=>vo (vs:=[_,_]) 0 rfl rfl XC zk rfl rfl rfl ha hH) ?_
   refine kg (φ:=fun v=>∃b,v=.bool b) call109 rfl rfl (fun w hH hf=>qdf w _ _ (yW.keep (hf.keepAll (.inr rfl)) _ _ hR')) ?_
   rintro _ ⟨b15,rfl⟩
   refine jU (k:=K11 ?_)
   refine qZ rfl (fun _=>?_) (fun _=>?_)
   ·refine sQ fun K12=>jb (jA (k:=K12 (jj ?_)))
    exact je results93 rfl fun w' hH hf=>⟨⟨_,rfl,by first|(intro h;exact absurd h dq)|(intro _;omega)⟩,hf⟩
   ·refine jg (K9 (jb (jI (k:=jM (k:=jw (ji ?_))))))
    exact fun w hH hf=>hKL (k+1) _ w hlt' hf .nil ox sR
  ·refine jt (K5 (CJ.t [] (k:=sQ fun K13=>jb (jA (k:=K13 (jj ?_))))))
   exact je results93 rfl fun w' hH hf=>⟨⟨_,rfl,by first|(intro h;exact absurd h dq)|(intro _;omega)⟩,hf⟩
theorem qeO (w:World) (cs:List Value) (x:ku) (h:vE w cs x):Calls Tryz.prog 57 #[.agg cs.toArray] w (Ret fun v w'=>(∃b,v=.bool b)∧Fr 0 [] w w'):=by
 obtain ⟨la,lb,lt,lu,rfl,hla,hlb,hlt,hlu⟩:=h
 obtain ⟨p1,c1,rfl,hl1, -⟩:=hla.open
 obtain ⟨p2,c2,rfl,hl2, -⟩:=hlb.open
 refine jr (args:=[_]) [(0,_)] 0 [] [] func57 rfl ntmps57 rfl rfl .nil ?_
 refine sQ fun K1=>jb (qA (vs:=[_,_,_,_]) rfl rfl fun b1=>jA (k:=K1 (sQ fun K2=>sQ fun K3=>jb (jF 0 zh Xe (k:=jH 0 ZP (k:=jE QC (k:=jG (k:=K3 ?_))))))))
 refine jq rfl (fun _=>?_) (fun _=>?_)
 ·refine sQ fun K4=>jb (jA (k:=K4 (jj ?_)))
  exact je results57 rfl fun w' hH hf=>⟨⟨_,rfl⟩,hf⟩
 ·refine jg (K2 (sQ fun K5=>sQ fun K6=>jb (jF 1 zh Jt (k:=jH 0 KC (k:=jE xI (k:=jG (k:=K6 (CJ.t [(1,_),(10,_)] (k:=?_)))))))))
  refine jq rfl (fun _=>?_) (fun _=>?_)
  ·refine sQ fun K7=>jb (jA (k:=K7 (jj ?_)))
   exact je results57 rfl fun w' hH hf=>⟨⟨_,rfl⟩,hf⟩
  ·refine jg (K5 (sQ fun K8=>sQ fun K9=>jb (jF 2 zh qaT (k:=jH 0 qdS (k:=?_)))))
   refine kg (φ:=fun v=>∃b,v=.bool b∧(b=true→x.texts.length≤2147483647)) call92 rfl rfl (fun w hH hf=>qeN w _ _ (hlt.keep (xA.keep (hf.keepAll (.inr rfl))) (hf.keepAll (.inr rfl)))) ?_
   rintro _ ⟨b13,rfl,hb13⟩
   refine jU (k:=K9 ?_)
   refine qZ rfl (fun _=>?_) (fun _=>?_)
   ·refine sQ fun K10=>jb (jA (k:=K10 (jj ?_)))
    exact je results57 rfl fun w' hH hf=>⟨⟨_,rfl⟩,hf⟩
   ·refine jg (K8 (sQ fun K11=>sQ fun K12=>jb (jF 3 zh qaS (k:=jH 0 qdR (k:=?_)))))
    refine kg (φ:=fun v=>∃b,v=.bool b∧(b=true→x.nums.length≤2147483647)) call93 rfl rfl (fun w hH hf=>qeL w _ _ (hlu.keep (yW.keep (hf.keepAll (.inr rfl))) (hf.keepAll (.inr rfl)))) ?_
    rintro _ ⟨b17,rfl,hb17⟩
    refine jU (k:=K12 (CJ.t [(18,_)] (k:=?_)))
    refine qZ rfl (fun _=>?_) (fun _=>?_)
    ·refine sQ fun K13=>jb (jA (k:=K13 (jj ?_)))
     exact je results57 rfl fun w' hH hf=>⟨⟨_,rfl⟩,hf⟩
    ·refine jg (K11 (sQ fun K14=>jb (jA (k:=K14 (jj ?_)))))
     exact je results57 rfl fun w' hH hf=>⟨⟨_,rfl⟩,hf⟩
theorem qeP (w:World) (v:Value) (xs:List ku) (h:Lay vE 4 w v xs):Calls Tryz.prog 19 #[v] w (Ret fun v w'=>(∃b,v=.bool b∧(b=true→xs.length≤2147483647))∧Fr 0 [] w w'):=by
 obtain ⟨p,c,rfl,hl,hx⟩:=h.open
 refine jr (args:=[_]) [(0,_)] 0 [] [] func19 rfl ntmps19 rfl rfl .nil ?_
 refine sQ fun K1=>jb (jA (k:=K1 (sQ fun K2=>sQ fun K3=>jb (jM (k:=jE KA (k:=jG (k:=K3 ?_)))))))
 refine jq rfl (fun hbig=>?_) (fun hbig=>?_)
 ·refine sQ fun K4=>jb (jA (k:=K4 (jj ?_)))
  exact je results19 rfl fun w' hH hf=>⟨⟨_,rfl,by first|(intro h;exact absurd h dq)|(intro _;omega)⟩,hf⟩
 ·refine jg (K2 (sQ fun K5=>sQ fun K6=>jb (jM (k:=jE KA (k:=jM (k:=K6 (jh ?_)))))))
  refine jZ (σ:=Nat) (fun k=>[(8,.slice p xs.length c),(9,.int .i64 (xs.length:Nat)),(10,.int .i64 (k:Nat))]) (fun _=>[]) (fun k _=>k≤xs.length) (fun k=>xs.length - k) 0 sR (fun w hH hf=>⟨.nil,Nat.zero_le _⟩) ?_
  intro k w1 hk hf1 hH1 KL hKL
  refine C.begin _ [] hf1 .nil ?_
  refine sQ fun K7=>jb (jS (k:=K7 (sQ fun K8=>?_)))
  refine jq rfl (fun hlt=>?_) (fun hlt=>?_)
  ·have hlt':k<xs.length:=by omega
   obtain ⟨b,o,cs,rfl,hcs,hR,hcell⟩:=hx k xs[k] (gE hlt')
   have hR':=hR
   obtain ⟨la,lb,lt,lu,rfl,hla,hlb,hlt2,hlu⟩:=hR
   obtain ⟨p1,c1,rfl,hl1, -⟩:=hla.open
   obtain ⟨p2,c2,rfl,hl2, -⟩:=hlb.open
   obtain ⟨p3,c3,rfl,hl3, -⟩:=hlt2.open
   obtain ⟨p4,c4,rfl,hl4, -⟩:=hlu.open
   refine jg (K8 (sQ fun K9=>jh (sQ fun K10=>jb (jJ KA zC (k:=?_)))))
   refine jp rfl (fun a w ha hH hf=>kD XY zC rfl rfl (hcell w (hf.keepAll (.inr rfl))) ha) (jW (zs:=[(.slice none 0 0),(.slice none 0 0),(.slice none 0 0),(.slice none 0 0)]) qaK rfl fun b4=>jB [_,_,_,_] [_] 0 zC (k:=K10 (sQ fun K11=>jb ?_)))
   refine jp rfl (fun a w ha hH hf=>vo (vs:=[_,_,_,_]) 0 rfl rfl XY zC rfl rfl rfl ha hH) ?_
   refine kg (φ:=fun v=>∃b,v=.bool b) call57 rfl rfl (fun w hH hf=>qeO w _ _ (vE.keep (hf.keepAll (.inr rfl)) _ _ hR')) ?_
   rintro _ ⟨b15,rfl⟩
   refine jU (k:=K11 ?_)
   refine qZ rfl (fun _=>?_) (fun _=>?_)
   ·refine sQ fun K12=>jb (jA (k:=K12 (jj ?_)))
    exact je results19 rfl fun w' hH hf=>⟨⟨_,rfl,by first|(intro h;exact absurd h dq)|(intro _;omega)⟩,hf⟩
   ·refine jg (K9 (jb (jI (k:=jM (k:=jw (ji ?_))))))
    exact fun w hH hf=>hKL (k+1) _ w hlt' hf .nil ox sR
  ·refine jt (K5 (CJ.t [] (k:=sQ fun K13=>jb (jA (k:=K13 (jj ?_))))))
   exact je results19 rfl fun w' hH hf=>⟨⟨_,rfl,by first|(intro h;exact absurd h dq)|(intro _;omega)⟩,hf⟩
theorem qdd (w:World) (cs:List Value) (x:qK) (h:xm w cs x):Calls Tryz.prog 58 #[.agg cs.toArray] w (Ret fun v w'=>(∃b,v=.bool b)∧Fr 0 [] w w'):=by
 obtain ⟨rfl, -⟩:=h
 refine jr (args:=[_]) [(0,_)] 0 [] [] func58 rfl ntmps58 rfl rfl .nil ?_
 refine sQ fun K1=>jb (qA (vs:=[_,_,_,_,_,_,_,_,_,_]) rfl rfl fun b1=>jA (k:=K1 (sQ fun K2=>sQ fun K3=>jb (jF 4 Xf so9 (k:=jH 0 ag9 (k:=?_))))))
 refine jn rfl (fun _ _ h=>zI ru9 rfl h) (jG (k:=K3 ?_))
 refine jq rfl (fun _=>?_) (fun _=>?_)
 ·refine sQ fun K4=>jb (jA (k:=K4 (jj ?_)))
  exact je results58 rfl fun w' hH hf=>⟨⟨_,rfl⟩,hf⟩
 ·refine jg (K2 (sQ fun K5=>sQ fun K6=>jb (jF 5 Xf so9 (k:=jH 0 ag9 (k:=?_)))))
  refine jn rfl (fun _ _ h=>zI ru9 rfl h) (jG (k:=K6 (CJ.t [(10,_)] (k:=?_))))
  refine jq rfl (fun _=>?_) (fun _=>?_)
  ·refine sQ fun K7=>jb (jA (k:=K7 (jj ?_)))
   exact je results58 rfl fun w' hH hf=>⟨⟨_,rfl⟩,hf⟩
  ·refine jg (K5 (sQ fun K8=>jb (jA (k:=K8 (jj ?_)))))
   exact je results58 rfl fun w' hH hf=>⟨⟨_,rfl⟩,hf⟩
theorem qde (w:World) (v:Value) (xs:List qK) (h:Lay xm 10 w v xs):Calls Tryz.prog 20 #[v] w (Ret fun v w'=>(∃b,v=.bool b∧(b=true→xs.length≤2147483647))∧Fr 0 [] w w'):=by
 obtain ⟨p,c,rfl,hl,hx⟩:=h.open
 refine jr (args:=[_]) [(0,_)] 0 [] [] func20 rfl ntmps20 rfl rfl .nil ?_
 refine sQ fun K1=>jb (jA (k:=K1 (sQ fun K2=>sQ fun K3=>jb (jM (k:=jE JH (k:=jG (k:=K3 ?_)))))))
 refine jq rfl (fun hbig=>?_) (fun hbig=>?_)
 ·refine sQ fun K4=>jb (jA (k:=K4 (jj ?_)))
  exact je results20 rfl fun w' hH hf=>⟨⟨_,rfl,by first|(intro h;exact absurd h dq)|(intro _;omega)⟩,hf⟩
 ·refine jg (K2 (sQ fun K5=>sQ fun K6=>jb (jM (k:=jE JH (k:=jM (k:=K6 (jh ?_)))))))
  refine jZ (σ:=Nat) (fun k=>[(8,.slice p xs.length c),(9,.int .i64 (xs.length:Nat)),(10,.int .i64 (k:Nat))]) (fun _=>[]) (fun k _=>k≤xs.length) (fun k=>xs.length - k) 0 sR (fun w hH hf=>⟨.nil,Nat.zero_le _⟩) ?_
  intro k w1 hk hf1 hH1 KL hKL
  refine C.begin _ [] hf1 .nil ?_
  refine sQ fun K7=>jb (jS (k:=K7 (sQ fun K8=>?_)))
  refine jq rfl (fun hlt=>?_) (fun hlt=>?_)
  ·have hlt':k<xs.length:=by omega
   obtain ⟨b,o,cs,rfl,hcs,hR,hcell⟩:=hx k xs[k] (gE hlt')
   have hR':=hR
   obtain ⟨rfl, -⟩:=hR
   refine jg (K8 (sQ fun K9=>jh (sQ fun K10=>jb (jJ JH Ky (k:=?_)))))
   refine jp rfl (fun a w ha hH hf=>kD qcU Ky rfl rfl (hcell w (hf.keepAll (.inr rfl))) ha) (jW (zs:=[(.int .u64 0),(.int .u64 0),(.int .u64 0),(.int .u64 0),(.string ⟨#[]⟩),(.string ⟨#[]⟩),(.bool false),(.bool false),(.bool false),(.bool false)]) qeS rfl fun b4=>jB [_,_,_,_,_,_,_,_,_,_] [_] 0 Ky (k:=K10 (sQ fun K11=>jb ?_)))
   refine jp rfl (fun a w ha hH hf=>vo (vs:=[_,_,_,_,_,_,_,_,_,_]) 0 rfl rfl qcU Ky rfl rfl rfl ha hH) ?_
   refine kg (φ:=fun v=>∃b,v=.bool b) call58 rfl rfl (fun w hH hf=>qdd w _ _ (xm.keep (hf.keepAll (.inr rfl)) _ _ hR')) ?_
   rintro _ ⟨b15,rfl⟩
   refine jU (k:=K11 ?_)
   refine qZ rfl (fun _=>?_) (fun _=>?_)
   ·refine sQ fun K12=>jb (jA (k:=K12 (jj ?_)))
    exact je results20 rfl fun w' hH hf=>⟨⟨_,rfl,by first|(intro h;exact absurd h dq)|(intro _;omega)⟩,hf⟩
   ·refine jg (K9 (jb (jI (k:=jM (k:=jw (ji ?_))))))
    exact fun w hH hf=>hKL (k+1) _ w hlt' hf .nil ox sR
  ·refine jt (K5 (CJ.t [] (k:=sQ fun K13=>jb (jA (k:=K13 (jj ?_))))))
   exact je results20 rfl fun w' hH hf=>⟨⟨_,rfl,by first|(intro h;exact absurd h dq)|(intro _;omega)⟩,hf⟩
theorem qdb (w:World) (cs:List Value) (x:vP) (h:Qa w cs x):Calls Tryz.prog 59 #[.agg cs.toArray] w (Ret fun v w'=>(∃b,v=.bool b)∧Fr 0 [] w w'):=by
 obtain ⟨la,rfl, -, -, -,hla⟩:=h
 obtain ⟨p1,c1,rfl,hl1, -⟩:=hla.open
 refine jr (args:=[_]) [(0,_)] 0 [] [] func59 rfl ntmps59 rfl rfl .nil ?_
 refine sQ fun K1=>jb (qA (vs:=[_,_,_,_]) rfl rfl fun b1=>jA (k:=K1 (sQ fun K2=>sQ fun K3=>jb (jF 3 zr Vx (k:=jH 0 Yt (k:=jE Kz (k:=jG (k:=K3 ?_))))))))
 refine jq rfl (fun _=>?_) (fun _=>?_)
 ·refine sQ fun K4=>jb (jA (k:=K4 (jj ?_)))
  exact je results59 rfl fun w' hH hf=>⟨⟨_,rfl⟩,hf⟩
 ·refine jg (K2 (sQ fun K5=>jb (jA (k:=K5 (jj ?_)))))
  exact je results59 rfl fun w' hH hf=>⟨⟨_,rfl⟩,hf⟩
theorem qdc (w:World) (v:Value) (xs:List vP) (h:Lay Qa 4 w v xs):Calls Tryz.prog 21 #[v] w (Ret fun v w'=>(∃b,v=.bool b∧(b=true→xs.length≤2147483647))∧Fr 0 [] w w'):=by
 obtain ⟨p,c,rfl,hl,hx⟩:=h.open
 refine jr (args:=[_]) [(0,_)] 0 [] [] func21 rfl ntmps21 rfl rfl .nil ?_
 refine sQ fun K1=>jb (jA (k:=K1 (sQ fun K2=>sQ fun K3=>jb (jM (k:=jE JG (k:=jG (k:=K3 ?_)))))))
 refine jq rfl (fun hbig=>?_) (fun hbig=>?_)
 ·refine sQ fun K4=>jb (jA (k:=K4 (jj ?_)))
  exact je results21 rfl fun w' hH hf=>⟨⟨_,rfl,by first|(intro h;exact absurd h dq)|(intro _;omega)⟩,hf⟩
 ·refine jg (K2 (sQ fun K5=>sQ fun K6=>jb (jM (k:=jE JG (k:=jM (k:=K6 (jh ?_)))))))
  refine jZ (σ:=Nat) (fun k=>[(8,.slice p xs.length c),(9,.int .i64 (xs.length:Nat)),(10,.int .i64 (k:Nat))]) (fun _=>[]) (fun k _=>k≤xs.length) (fun k=>xs.length - k) 0 sR (fun w hH hf=>⟨.nil,Nat.zero_le _⟩) ?_
  intro k w1 hk hf1 hH1 KL hKL
  refine C.begin _ [] hf1 .nil ?_
  refine sQ fun K7=>jb (jS (k:=K7 (sQ fun K8=>?_)))
  refine jq rfl (fun hlt=>?_) (fun hlt=>?_)
  ·have hlt':k<xs.length:=by omega
   obtain ⟨b,o,cs,rfl,hcs,hR,hcell⟩:=hx k xs[k] (gE hlt')
   have hR':=hR
   obtain ⟨la,rfl, -, -, -,hla⟩:=hR
   obtain ⟨p1,c1,rfl,hl1, -⟩:=hla.open
   refine jg (K8 (sQ fun K9=>jh (sQ fun K10=>jb (jJ JG zg (k:=?_)))))
   refine jp rfl (fun a w ha hH hf=>kD XA zg rfl rfl (hcell w (hf.keepAll (.inr rfl))) ha) (jW (zs:=[(.int .u64 0),(.int .i64 0),(.int .u64 0),(.slice none 0 0)]) YL rfl fun b4=>jB [_,_,_,_] [_] 0 zg (k:=K10 (sQ fun K11=>jb ?_)))
   refine jp rfl (fun a w ha hH hf=>vo (vs:=[_,_,_,_]) 0 rfl rfl XA zg rfl rfl rfl ha hH) ?_
   refine kg (φ:=fun v=>∃b,v=.bool b) call59 rfl rfl (fun w hH hf=>qdb w _ _ (Qa.keep (hf.keepAll (.inr rfl)) _ _ hR')) ?_
   rintro _ ⟨b15,rfl⟩
   refine jU (k:=K11 ?_)
   refine qZ rfl (fun _=>?_) (fun _=>?_)
   ·refine sQ fun K12=>jb (jA (k:=K12 (jj ?_)))
    exact je results21 rfl fun w' hH hf=>⟨⟨_,rfl,by first|(intro h;exact absurd h dq)|(intro _;omega)⟩,hf⟩
   ·refine jg (K9 (jb (jI (k:=jM (k:=jw (ji ?_))))))
    exact fun w hH hf=>hKL (k+1) _ w hlt' hf .nil ox sR
  ·refine jt (K5 (CJ.t [] (k:=sQ fun K13=>jb (jA (k:=K13 (jj ?_))))))
   exact je results21 rfl fun w' hH hf=>⟨⟨_,rfl,by first|(intro h;exact absurd h dq)|(intro _;omega)⟩,hf⟩
theorem qcZ (w:World) (cs:List Value) (x:yl) (h:JE w cs x):Calls Tryz.prog 60 #[.agg cs.toArray] w (Ret fun v w'=>(∃b,v=.bool b)∧Fr 0 [] w w'):=by
 obtain ⟨rfl, -⟩:=h
 refine jr (args:=[_]) [(0,_)] 0 [] [] func60 rfl ntmps60 rfl rfl .nil ?_
 refine sQ fun K1=>jb (qA (vs:=[_,_,_,_,_]) rfl rfl fun b1=>jA (k:=K1 (sQ fun K2=>sQ fun K3=>jb (jF 1 ZI so9 (k:=jH 0 ag9 (k:=?_))))))
 refine jn rfl (fun _ _ h=>zI ru9 rfl h) (jG (k:=K3 ?_))
 refine jq rfl (fun _=>?_) (fun _=>?_)
 ·refine sQ fun K4=>jb (jA (k:=K4 (jj ?_)))
  exact je results60 rfl fun w' hH hf=>⟨⟨_,rfl⟩,hf⟩
 ·refine jg (K2 (sQ fun K5=>sQ fun K6=>jb (jF 2 ZI so9 (k:=jH 0 ag9 (k:=?_)))))
  refine jn rfl (fun _ _ h=>zI ru9 rfl h) (jG (k:=K6 (CJ.t [(1,_),(10,_)] (k:=?_))))
  refine jq rfl (fun _=>?_) (fun _=>?_)
  ·refine sQ fun K7=>jb (jA (k:=K7 (jj ?_)))
   exact je results60 rfl fun w' hH hf=>⟨⟨_,rfl⟩,hf⟩
  ·refine jg (K5 (sQ fun K8=>sQ fun K9=>jb (jF 3 ZI so9 (k:=jH 0 ag9 (k:=?_)))))
   refine jn rfl (fun _ _ h=>zI ru9 rfl h) (jG (k:=K9 ?_))
   refine jq rfl (fun _=>?_) (fun _=>?_)
   ·refine sQ fun K10=>jb (jA (k:=K10 (jj ?_)))
    exact je results60 rfl fun w' hH hf=>⟨⟨_,rfl⟩,hf⟩
   ·refine jg (K8 (sQ fun K11=>jb (jA (k:=K11 (jj ?_)))))
    exact je results60 rfl fun w' hH hf=>⟨⟨_,rfl⟩,hf⟩
theorem qda (w:World) (v:Value) (xs:List yl) (h:Lay JE 5 w v xs):Calls Tryz.prog 22 #[v] w (Ret fun v w'=>(∃b,v=.bool b∧(b=true→xs.length≤2147483647))∧Fr 0 [] w w'):=by
 obtain ⟨p,c,rfl,hl,hx⟩:=h.open
 refine jr (args:=[_]) [(0,_)] 0 [] [] func22 rfl ntmps22 rfl rfl .nil ?_
 refine sQ fun K1=>jb (jA (k:=K1 (sQ fun K2=>sQ fun K3=>jb (jM (k:=jE JF (k:=jG (k:=K3 ?_)))))))
 refine jq rfl (fun hbig=>?_) (fun hbig=>?_)
 ·refine sQ fun K4=>jb (jA (k:=K4 (jj ?_)))
  exact je results22 rfl fun w' hH hf=>⟨⟨_,rfl,by first|(intro h;exact absurd h dq)|(intro _;omega)⟩,hf⟩
 ·refine jg (K2 (sQ fun K5=>sQ fun K6=>jb (jM (k:=jE JF (k:=jM (k:=K6 (jh ?_)))))))
  refine jZ (σ:=Nat) (fun k=>[(8,.slice p xs.length c),(9,.int .i64 (xs.length:Nat)),(10,.int .i64 (k:Nat))]) (fun _=>[]) (fun k _=>k≤xs.length) (fun k=>xs.length - k) 0 sR (fun w hH hf=>⟨.nil,Nat.zero_le _⟩) ?_
  intro k w1 hk hf1 hH1 KL hKL
  refine C.begin _ [] hf1 .nil ?_
  refine sQ fun K7=>jb (jS (k:=K7 (sQ fun K8=>?_)))
  refine jq rfl (fun hlt=>?_) (fun hlt=>?_)
  ·have hlt':k<xs.length:=by omega
   obtain ⟨b,o,cs,rfl,hcs,hR,hcell⟩:=hx k xs[k] (gE hlt')
   have hR':=hR
   obtain ⟨rfl, -⟩:=hR
   refine jg (K8 (sQ fun K9=>jh (sQ fun K10=>jb (jJ JF Kx (k:=?_)))))
   refine jp rfl (fun a w ha hH hf=>kD qcT Kx rfl rfl (hcell w (hf.keepAll (.inr rfl))) ha) (jW (zs:=[(.int .u64 0),(.string ⟨#[]⟩),(.string ⟨#[]⟩),(.string ⟨#[]⟩),(.int .i64 0)]) qeR rfl fun b4=>jB [_,_,_,_,_] [_] 0 Kx (k:=K10 (sQ fun K11=>jb ?_)))
   refine jp rfl (fun a w ha hH hf=>vo (vs:=[_,_,_,_,_]) 0 rfl rfl qcT Kx rfl rfl rfl ha hH) ?_
   refine kg (φ:=fun v=>∃b,v=.bool b) call60 rfl rfl (fun w hH hf=>qcZ w _ _ (JE.keep (hf.keepAll (.inr rfl)) _ _ hR')) ?_
   rintro _ ⟨b15,rfl⟩
   refine jU (k:=K11 ?_)
   refine qZ rfl (fun _=>?_) (fun _=>?_)
   ·refine sQ fun K12=>jb (jA (k:=K12 (jj ?_)))
    exact je results22 rfl fun w' hH hf=>⟨⟨_,rfl,by first|(intro h;exact absurd h dq)|(intro _;omega)⟩,hf⟩
   ·refine jg (K9 (jb (jI (k:=jM (k:=jw (ji ?_))))))
    exact fun w hH hf=>hKL (k+1) _ w hlt' hf .nil ox sR
  ·refine jt (K5 (CJ.t [] (k:=sQ fun K13=>jb (jA (k:=K13 (jj ?_))))))
   exact je results22 rfl fun w' hH hf=>⟨⟨_,rfl,by first|(intro h;exact absurd h dq)|(intro _;omega)⟩,hf⟩
theorem ZW (w:World) (cs:List Value) (x:jD) (h:qI w cs x):Calls Tryz.prog 7 #[.agg cs.toArray] w (Ret fun v w'=>(∃b,v=.bool b∧(b=true→x.mappings.length≤2147483647∧x.locs.length≤2147483647∧x.funcs.length≤2147483647))∧Fr 0 [] w w'):=by
 obtain ⟨la,ls,lm,ll,lf,lcm,rfl,ha,hs,hm,hll,hfu,hcm, -⟩:=h
 refine jr (args:=[_]) [(0,_)] 0 [] [] func7 rfl ntmps7 rfl rfl .nil ?_
 refine sQ fun K1=>jb (qA (vs:=[_,_,_,_,_,_,_,_,_,_,_,_,_,_]) rfl rfl fun b1=>jA (k:=K1 (sQ fun K2=>sQ fun K3=>jb (jF 0 kW Yq (k:=jH 0 ZR (k:=?_))))))
 refine kg (φ:=fun v=>∃b,v=.bool b∧(b=true→x.types.length≤2147483647)) call18 rfl rfl (fun w hH hf=>qeQ w _ _ (ha.keep (xz.keep (hf.keepAll (.inr rfl))) (hf.keepAll (.inr rfl)))) ?_
 rintro _ ⟨b5,rfl,hb5⟩
 refine jU (k:=K3 ?_)
 refine qZ rfl (fun _=>?_) (fun _=>?_)
 ·refine sQ fun K4=>jb (jA (k:=K4 (jj ?_)))
  exact je results7 rfl fun w' hH hf=>⟨⟨_,rfl,by first|(intro h;exact absurd h dq)|(intro _;simp at h18 h22 h26;exact ⟨hb17 h18,hb21 h22,hb25 h26⟩)⟩,hf⟩
 ·refine jg (K2 (sQ fun K5=>sQ fun K6=>jb (jF 1 kW so9 (k:=jH 0 ag9 (k:=?_)))))
  refine jn rfl (fun _ _ h=>zI ru9 rfl h) (jG (k:=K6 (CJ.t [(1,_),(10,_)] (k:=?_))))
  refine jq rfl (fun _=>?_) (fun _=>?_)
  ·refine sQ fun K7=>jb (jA (k:=K7 (jj ?_)))
   exact je results7 rfl fun w' hH hf=>⟨⟨_,rfl,by first|(intro h;exact absurd h dq)|(intro _;simp at h18 h22 h26;exact ⟨hb17 h18,hb21 h22,hb25 h26⟩)⟩,hf⟩
  ·refine jg (K5 (sQ fun K8=>sQ fun K9=>jb (jF 2 kW Vy (k:=jH 0 ZQ (k:=?_)))))
   refine kg (φ:=fun v=>∃b,v=.bool b∧(b=true→x.samples.length≤2147483647)) call19 rfl rfl (fun w hH hf=>qeP w _ _ (hs.keep (vE.keep (hf.keepAll (.inr rfl))) (hf.keepAll (.inr rfl)))) ?_
   rintro _ ⟨b13,rfl,hb13⟩
   refine jU (k:=K9 ?_)
   refine qZ rfl (fun _=>?_) (fun _=>?_)
   ·refine sQ fun K10=>jb (jA (k:=K10 (jj ?_)))
    exact je results7 rfl fun w' hH hf=>⟨⟨_,rfl,by first|(intro h;exact absurd h dq)|(intro _;simp at h18 h22 h26;exact ⟨hb17 h18,hb21 h22,hb25 h26⟩)⟩,hf⟩
   ·refine jg (K8 (sQ fun K11=>sQ fun K12=>jb (jF 3 kW QB (k:=jH 0 Yw (k:=?_)))))
    refine kg (φ:=fun v=>∃b,v=.bool b∧(b=true→x.mappings.length≤2147483647)) call20 rfl rfl (fun w hH hf=>qde w _ _ (hm.keep (xm.keep (hf.keepAll (.inr rfl))) (hf.keepAll (.inr rfl)))) ?_
    rintro _ ⟨b17,rfl,hb17⟩
    refine jU (k:=K12 (CJ.t [(1,_),(18,_)] (k:=?_)))
    refine qZ rfl (fun h18=>?_) (fun h18=>?_)
    ·refine sQ fun K13=>jb (jA (k:=K13 (jj ?_)))
     exact je results7 rfl fun w' hH hf=>⟨⟨_,rfl,by first|(intro h;exact absurd h dq)|(intro _;simp at h18 h22 h26;exact ⟨hb17 h18,hb21 h22,hb25 h26⟩)⟩,hf⟩
    ·refine jg (K11 (sQ fun K14=>sQ fun K15=>jb (jF 4 kW QA (k:=jH 0 Yv (k:=?_)))))
     refine kg (φ:=fun v=>∃b,v=.bool b∧(b=true→x.locs.length≤2147483647)) call21 rfl rfl (fun w hH hf=>qdc w _ _ (hll.keep (Qa.keep (hf.keepAll (.inr rfl))) (hf.keepAll (.inr rfl)))) ?_
     rintro _ ⟨b21,rfl,hb21⟩
     refine jU (k:=K15 ?_)
     refine qZ rfl (fun h22=>?_) (fun h22=>?_)
     ·refine sQ fun K16=>jb (jA (k:=K16 (jj ?_)))
      exact je results7 rfl fun w' hH hf=>⟨⟨_,rfl,by first|(intro h;exact absurd h dq)|(intro _;simp at h18 h22 h26;exact ⟨hb17 h18,hb21 h22,hb25 h26⟩)⟩,hf⟩
     ·refine jg (K14 (sQ fun K17=>sQ fun K18=>jb (jF 5 kW Qz (k:=jH 0 Yu (k:=?_)))))
      refine kg (φ:=fun v=>∃b,v=.bool b∧(b=true→x.funcs.length≤2147483647)) call22 rfl rfl (fun w hH hf=>qda w _ _ (hfu.keep (JE.keep (hf.keepAll (.inr rfl))) (hf.keepAll (.inr rfl)))) ?_
      rintro _ ⟨b25,rfl,hb25⟩
      refine jU (k:=K18 (CJ.t [(1,_),(26,_)] (k:=?_)))
      refine qZ rfl (fun h26=>?_) (fun h26=>?_)
      ·refine sQ fun K19=>jb (jA (k:=K19 (jj ?_)))
       exact je results7 rfl fun w' hH hf=>⟨⟨_,rfl,by first|(intro h;exact absurd h dq)|(intro _;simp at h18 h22 h26;exact ⟨hb17 h18,hb21 h22,hb25 h26⟩)⟩,hf⟩
      ·refine jg (K17 (sQ fun K20=>sQ fun K21=>jb (jF 6 kW xH (k:=jH 0 yv (k:=?_)))))
       refine kg (φ:=fun v=>∃b,v=.bool b∧(b=true→x.comments.length≤2147483647)) call23 rfl rfl (fun w hH hf=>ZU w _ _ (hcm.keep (xa.keep (hf.keepAll (.inr rfl))) (hf.keepAll (.inr rfl)))) ?_
       rintro _ ⟨b29,rfl,hb29⟩
       refine jU (k:=K21 ?_)
       refine qZ rfl (fun _=>?_) (fun _=>?_)
       ·refine sQ fun K22=>jb (jA (k:=K22 (jj ?_)))
        exact je results7 rfl fun w' hH hf=>⟨⟨_,rfl,by first|(intro h;exact absurd h dq)|(intro _;simp at h18 h22 h26;exact ⟨hb17 h18,hb21 h22,hb25 h26⟩)⟩,hf⟩
       ·refine jg (K20 (sQ fun K23=>sQ fun K24=>jb (jF 7 kW so9 (k:=jH 0 ag9 (k:=?_)))))
        refine jn rfl (fun _ _ h=>zI ru9 rfl h) (jG (k:=K24 (CJ.t [(1,_),(34,_)] (k:=?_))))
        refine jq rfl (fun _=>?_) (fun _=>?_)
        ·refine sQ fun K25=>jb (jA (k:=K25 (jj ?_)))
         exact je results7 rfl fun w' hH hf=>⟨⟨_,rfl,by first|(intro h;exact absurd h dq)|(intro _;simp at h18 h22 h26;exact ⟨hb17 h18,hb21 h22,hb25 h26⟩)⟩,hf⟩
        ·refine jg (K23 (sQ fun K26=>sQ fun K27=>jb (jF 8 kW so9 (k:=jH 0 ag9 (k:=?_)))))
         refine jn rfl (fun _ _ h=>zI ru9 rfl h) (jG (k:=K27 ?_))
         refine jq rfl (fun _=>?_) (fun _=>?_)
         ·refine sQ fun K28=>jb (jA (k:=K28 (jj ?_)))
          exact je results7 rfl fun w' hH hf=>⟨⟨_,rfl,by first|(intro h;exact absurd h dq)|(intro _;simp at h18 h22 h26;exact ⟨hb17 h18,hb21 h22,hb25 h26⟩)⟩,hf⟩
         ·refine jg (K26 (sQ fun K29=>sQ fun K30=>jb (jF 12 kW zq (k:=?_))))
          refine jp rfl (fun a w ha hH hf=>vo (vs:=[_,_]) 0 rfl rfl XB zq rfl rfl rfl ha hH) ?_
          refine kg (φ:=fun v=>∃b,v=.bool b) call24 rfl rfl (fun w hH hf=>ZV w _ x.per rfl) ?_
          rintro _ ⟨b41,rfl⟩
          refine jU (k:=K30 (CJ.t [(42,_)] (k:=?_)))
          refine qZ rfl (fun _=>?_) (fun _=>?_)
          ·refine sQ fun K31=>jb (jA (k:=K31 (jj ?_)))
           exact je results7 rfl fun w' hH hf=>⟨⟨_,rfl,by first|(intro h;exact absurd h dq)|(intro _;simp at h18 h22 h26;exact ⟨hb17 h18,hb21 h22,hb25 h26⟩)⟩,hf⟩
          ·refine jg (K29 (sQ fun K32=>jb (jA (k:=K32 (jj ?_)))))
           exact je results7 rfl fun w' hH hf=>⟨⟨_,rfl,by first|(intro h;exact absurd h dq)|(intro _;simp at h18 h22 h26;exact ⟨hb17 h18,hb21 h22,hb25 h26⟩)⟩,hf⟩
end Go.Proofs.YtifdadlhmlhfiaaGreatDoor
namespace Go.Fw
open Go
end Go.Fw
namespace Go.Proofs.YtifdadlhmlhfiaaGreatDoor
open Go Go.Fw Go.Proofs Go.Proofs.Tryz
theorem qiu.rprof {w:World} {cs:List Value} {x:jD} (hx:Pln x) (hr:Rng x) (h:qiu w cs x):qI w cs x:=by
 obtain ⟨vT,vS,vM,vL,vF,vC,sq,rfl,hPV,h7,h8,h9⟩:=h
 obtain ⟨lq,h4,h5,h6⟩:=hPV.lc
 have n1:=hx.ntyp
 have n2:=hx.nsam
 have n6:=hx.ncom
 have n3:=hx.nm
 have n5:=hx.nf
 have n4:=hx.nl
 refine ⟨_,_,_,_,_,_,rfl,xj (f:=fun x=>x) hPV.ty zp (fun _=>rfl) ox (fun _ _=>rfl) ox,xj h8 h7 (fun _=>rfl) ox (fun q hq=>?_) ox,xj (f:=fun x=>x) hPV.mp zp (fun _=>rfl) ox (fun m hm=>⟨rfl,hr.maps m hm⟩) ox,
  xj h5 h4 (fun _=>rfl) ox (fun q hq=>?_) ox,xj (f:=fun x=>x) hPV.fn zp (fun _=>rfl) ox (fun m hm=>⟨rfl,hr.funs m hm⟩) ox,Jd hPV.co (fun _ _=>rfl) ox,hr.time,hr.dur,hr.period⟩
 ·have hm:q.1∈x.samples:=by rw[← h7];exact mq hq
  obtain ⟨hv1,hst,hLab,hsk⟩:=hx.samples _ hm
  have hq9:=h9 q hq
  obtain ⟨ys,t1,t2,t3,t4⟩:=hq9.tx
  obtain ⟨zs,u1,u2,u3,u4⟩:=hq9.nu
  exact ⟨_,_,_,_,rfl,Jd hq9.st (fun z hz=>⟨rfl,by have:=hsk z hz;exact kG ox ox⟩) ox,Jd hq9.vs (fun z hz=>⟨rfl,hr.vals _ hm z hz⟩) ox,qfs hLab t1 t2 t3 t4,qhr hLab (fun t ht n hn=>hr.nums _ hm t ht n hn) u1 u2 u3 u4⟩
 ·have hm:q.1∈x.locs:=by rw[← h4];exact mq hq
  obtain ⟨r1,r2,r3⟩:=hr.locs _ hm
  obtain ⟨⟨m1,m2⟩,m3,m4⟩:=hx.locs _ hm
  refine ⟨_,rfl,r1,kG ox ox,r2,xj (f:=fun x=>x) (h6 q hq) zp (fun _=>rfl) ox (fun n hn=>⟨rfl,?_,r3 n hn⟩) ox⟩
  have:=m4 n hn
  exact kG ox ox
end Go.Proofs.YtifdadlhmlhfiaaGreatDoor
namespace Go.Fw
open Go
theorem Own.cellsA {β:Type} {T sz l c:Nat} {y:Ent} {p:Option Addr} {qs:List β} {g:β→List Value} (h:Own T sz y p l c (qs.flatMap g)) {w:World} (hb:Blk w y.b y.T y.cs) (hg:∀q,(g q).length=sz) {i:Nat} {q:β} (hq:qs[i]? =some q):∀(j:Nat) (u:Value),(g q)[j]? =some u→w.cell? ⟨y.b,0+i*sz+j,none⟩=some u:=fun j u hu=>by
 rw[hb.cell,Nat.zero_add]
 exact (h.at_ (xg hg hq j u hu)).2.2
end Go.Fw
namespace Go.Proofs.YtifdadlhmlhfiaaGreatDoor
open Go Go.Fw Go.Proofs Go.Proofs.Tryz
variable {W:List Nat} {B j n:Nat} {u w:World}
def LnJ (w u:World) (q:vP×Value):Prop:=Lay JD 2 w q.2 q.1.lines∨OS tLn 2 u q.2 (q.1.lines.flatMap KV)
def qjZ (w u:World) (qs:List (vP×Value)):Prop:=∀q∈qs,LnJ w u q
theorem qjZ.fr {u':World} {qs:List (vP×Value)} (h:qjZ w u qs) (k:Fr B W u u') (hW:W.all (fun t=> !Nat.beq t tLn)=true):qjZ w u' qs:=fun q hq=>(h q hq).imp id fun h=>h.mono (jk k hW)
theorem LnJ.sl {q:vP×Value} (h:LnJ w u q):∃p l c,q.2=.slice p l c:=by
 rcases h with ⟨_,⟨⟨p,c,h, -⟩, -⟩, -⟩|⟨y,p,l,c,e, -⟩
 ·exact ⟨_,_,_,h⟩
 ·exact ⟨_,_,_,e⟩
theorem LnJ.sc {q:vP×Value} (h:LnJ w u q):scal q.2=true:=by
 rcases h with h|⟨y,p,l,c,e, -⟩
 ·exact h.sc
 ·rw[e];rfl
def SmJ (w u:World) (q:ku×SV):Prop:=(Lay (vu .i64) 1 w q.2.st q.1.stack∨OS Yp 1 u q.2.st (q.1.stack.map (.int .i64)))∧Lay (vu .i64) 1 w q.2.vs q.1.values∧Lay xA 2 w q.2.tx q.1.texts∧Lay yW 2 w q.2.nu q.1.nums
def qgg (w u:World) (qs:List (ku×SV)):Prop:=∀q∈qs,SmJ w u q
theorem qgg.fr {u':World} {qs:List (ku×SV)} (h:qgg w u qs) (k:Fr B W u u') (hW:W.all (fun t=> !Nat.beq t Yp)=true):qgg w u' qs:=fun q hq=>⟨(h q hq).1.imp id fun h=>h.mono (jk k hW),(h q hq).2⟩
theorem qiy {st:List Int} (h:j<st.length):(((st.take j).map (· +(n:Int))++st.drop j).map (Value.int .i64)).set j (.int .i64 (st[j]+(n:Nat)))=((st.take (j+1)).map (· +(n:Int))++st.drop (j+1)).map (Value.int .i64):=by
 rw[List.drop_eq_getElem_cons h, ← tG h,List.map_append,List.map_append,List.map_append,List.map_append,List.set_append_right _ _ (by simp;omega)]
 have e:j - ((((st.take j).map (· +(n:Int))).map (Value.int .i64))).length=0:=by simp;omega
 rw[e,List.map_cons,List.set_cons_zero,List.append_assoc]
 rfl
theorem qea {st:List Int} (h:j<st.length):(((st.take j).map (· +(n:Int))++st.drop j).map (Value.int .i64))[j]? =some (.int .i64 st[j]):=by
 rw[List.getElem?_map,List.getElem?_append_right (by simp;omega)]
 have e:j - ((st.take j).map (· +(n:Int))).length=0:=by simp;omega
 rw[e,List.drop_eq_getElem_cons h]
 rfl
set_option maxHeartbeats 8000000 in
theorem qdl (w:World) (x y:jD) (cs ds:List Value) (hX:qI w cs x) (hY:qI w ds y) (hx:vW x) (hy:vW y) (ht:x.types=y.types):
  Calls Tryz.prog 17 #[.agg cs.toArray,.agg ds.toArray] w (Ret fun v w'=>(∃es,v=.agg (List.toArray es)∧qI w' es (qy x y))∧Fr 0 [] w w'):=by
 have rx:=qI.rng hX
 have ry:=qI.rng hY
 have rJ:=qav hx hy rx ry
 obtain ⟨-,n2,n3,n5,n4⟩:True∧(qy x y).samples.length≤120∧(qy x y).mappings.length≤120∧(qy x y).funcs.length≤120∧(qy x y).locs.length≤120:=⟨trivial,yw hx hy⟩
 simp only[qy,lA,List.length_mapIdx,List.length_map]at n2 n3 n5 n4
 obtain ⟨la,ls,lm,ll,lf,lc,rfl,hla,hls,hlm,hll,hlf,hlc,ht1, -⟩:=hX
 obtain ⟨ka,ks,km,kl,kf,kc,rfl,hka,hks,hkm,hkl,hkf,hkc, -⟩:=hY
 have hM1:=hlm.slv (g:=qdM) fun c m h=>h.1
 have hM2:=hkm.slv (g:=qdM) fun c m h=>h.1
 have hF1:=hlf.slv (g:=qdN) fun c m h=>h.1
 have hF2:=hkf.slv (g:=qdN) fun c m h=>h.1
 obtain ⟨ql1,el1,hL1,rl1⟩:=hll.slvX (g:=JM) (f:=(·.1)) fun c l h=>by obtain ⟨lv,h1, -⟩:=h;exact ⟨(l,lv),h1,rfl⟩
 obtain ⟨ql2,el2,hL2,rl2⟩:=hkl.slvX (g:=JM) (f:=(·.1)) fun c l h=>by obtain ⟨lv,h1, -⟩:=h;exact ⟨(l,lv),h1,rfl⟩
 obtain ⟨qs1,es1,hS1,rs1⟩:=hls.slvX (g:=ZO) (f:=(·.1)) fun c s h=>by obtain ⟨a,b,t,u,h1, -⟩:=h;exact ⟨(s,⟨a,b,t,u⟩),h1,rfl⟩
 have lnl1:ql1.length=x.locs.length:=by rw[← el1,List.length_map]
 have lnl2:ql2.length=y.locs.length:=by rw[← el2,List.length_map]
 have lns1:qs1.length=x.samples.length:=by rw[← es1,List.length_map]
 have sl1:(ql1.flatMap JM).all scal=true:=za fun q hq=>by
  obtain ⟨lv,h1, -, -, -,h2⟩:=rl1 q hq
  have e:q.2=lv:=by unfold JM at h1;simpa using h1
  have:=h2.sc
  rw[← e]at this
  simp only[JM,List.all_cons,List.all_nil,this];rfl
 have sl2:(ql2.flatMap JM).all scal=true:=za fun q hq=>by
  obtain ⟨lv,h1, -, -, -,h2⟩:=rl2 q hq
  have e:q.2=lv:=by unfold JM at h1;simpa using h1
  have:=h2.sc
  rw[← e]at this
  simp only[JM,List.all_cons,List.all_nil,this];rfl
 have ss1:(qs1.flatMap ZO).all scal=true:=za fun q hq=>by
  obtain ⟨a,b,t,u,h1,h2,h3,h4,h5⟩:=rs1 q hq
  unfold ZO at h1
  simp only[List.cons.injEq,and_true]at h1
  obtain ⟨e1,e2,e3,e4⟩:=h1
  simp only[ZO,e1,e2,e3,e4,List.all_cons,List.all_nil,h2.sc,h3.sc,h4.sc,h5.sc];rfl
 have gs1:qgg w w qs1:=fun q hq=>by
  obtain ⟨a,b,t,u,h1,h2,h3,h4,h5⟩:=rs1 q hq
  unfold ZO at h1
  simp only[List.cons.injEq,and_true]at h1
  obtain ⟨e1,e2,e3,e4⟩:=h1
  unfold SmJ
  rw[e1,e2,e3,e4]
  exact ⟨.inl h2,h3,h4,h5⟩
 have hk:∀w',Fm.ok ⟨w,w.heap.size,[]⟩ w'→vQ w w':=fun w' hf=>hf.keepAll (.inl (Nat.le_refl _))
 obtain ⟨pa,cpa,rfl, -, -⟩:=hla.open
 obtain ⟨ps,cps,rfl, -, -⟩:=hls.open
 obtain ⟨pm,cpm,rfl, -, -⟩:=hlm.open
 obtain ⟨pl,cpl,rfl, -, -⟩:=hll.open
 obtain ⟨pf,cpf,rfl, -, -⟩:=hlf.open
 obtain ⟨pc,cpc,rfl, -, -⟩:=hlc.open
 obtain ⟨oa,coa,rfl, -, -⟩:=hka.open
 obtain ⟨os,cos,rfl, -,hxs⟩:=hks.open
 obtain ⟨om,com,rfl, -, -⟩:=hkm.open
 obtain ⟨ol,col,rfl, -, -⟩:=hkl.open
 obtain ⟨of,cof,rfl, -, -⟩:=hkf.open
 obtain ⟨oc,coc,rfl, -, -⟩:=hkc.open
 refine jr (args:=[_,_]) [(0,.agg (List.toArray [_,_,_,_,_,_,_,_,_,_,_,_,_,_])),(1,.agg (List.toArray [_,_,_,_,_,_,_,_,_,_,_,_,_,_]))] w.heap.size [] [] Tryz.func17 rfl Tryz.ntmps17 rfl rfl .nil ?_
 refine sQ fun K1=>jb (qA (vs:=[_,_,_,_,_,_,_,_,_,_,_,_,_,_]) rfl rfl fun b2=>qA (vs:=[_,_,_,_,_,_,_,_,_,_,_,_,_,_]) rfl rfl fun b3=>jW (zs:=[(.slice none 0 0),(.string ⟨#[]⟩),(.slice none 0 0),(.slice none 0 0),(.slice none 0 0),(.slice none 0 0),(.slice none 0 0),(.string ⟨#[]⟩),(.string ⟨#[]⟩),(.int .i64 0),(.int .i64 0),(.int .i64 0),(.string ⟨#[]⟩),(.string ⟨#[]⟩)]) ZF rfl fun b4=>K1 (qP fun K2 hK2=>jb (jp rfl (fun a w ha hH hf=>vo (vs:=[_,_,_,_,_,_,_,_,_,_,_,_,_,_]) 2 rfl rfl Ki yJ rfl rfl rfl ha hH) (jW (zs:=[(.slice none 0 0),(.string ⟨#[]⟩),(.slice none 0 0),(.slice none 0 0),(.slice none 0 0),(.slice none 0 0),(.slice none 0 0),(.string ⟨#[]⟩),(.string ⟨#[]⟩),(.int .i64 0),(.int .i64 0),(.int .i64 0),(.string ⟨#[]⟩),(.string ⟨#[]⟩)]) ZF rfl fun b5=>?_))))
 refine yt 0 rfl rfl rfl rfl yJ rfl rfl rfl rfl rfl ?_
 refine jw (ji (hK2 _ _ _ (sQ fun K3=>jb (jF 11 kW so2 (k:=jH 3 ag2 (k:=jF 11 kW so2 (k:=jH 2 ag2 (k:=?_))))))))
 refine jn rfl (fun _ _ h=>qlb rfl rfl h) (jF 11 kW so2 (k:=jB [_,_,_,_,_,_,_,_,_,_,_,_,_,_] [_,_,_,_] 0 so2 (k:=K3 (CJ.t [(2,_),(3,_),(4,_),(5,_)] (k:=sQ fun K4=>jb (jF 10 kW so2 (k:=jH 3 ag2 (k:=jF 10 kW so2 (k:=jH 2 ag2 (k:=?_))))))))))
 refine jn rfl (fun _ _ h=>Yj rfl rfl h) (jF 10 kW so2 (k:=jB [_,_,_,_,_,_,_,_,_,_,_,_,_,_] [_,_,_,_] 0 so2 (k:=K4 (sQ fun K5=>jb (jF 3 kW QB (k:=jB [_,_,_,_,_,_,_,_,_,_,_,_,_,_] [_,_,_,_] 0 QB (k:=jF 5 kW Qz (k:=jB [_,_,_,_,_,_,_,_,_,_,_,_,_,_] [_,_,_,_] 0 Qz (k:=jF 4 kW QA (k:=jB [_,_,_,_,_,_,_,_,_,_,_,_,_,_] [_,_,_,_] 0 QA (k:=K5 (CJ.t [(2,_),(3,_),(4,_),(5,_)] (k:=?_)))))))))))))
 refine sQ fun K6=>sQ fun K7=>jC 8 (lts [0,1,3,4,7]++(2,false)::(5,false)::lts [6]) [3,2] rfl (by kernel_rfl) (by kernel_rfl) (dF [3,2] 3 kW QB (k:=dH [3,2] 0 Yw (k:=dF [3,2] 3 kW QB (k:=dH [3,2] 1 Yw (k:=dM [3,2] (k:=dE (h:=fun Kd=>?_)))))))
 refine Vo (T:=tMp) (sz:=10) (φ:=fun xs=>xs=x.mappings.flatMap qdM) Tryz.call51 rfl rfl (fun w' hH hf=>qfL w' _ _ _ (hM1.keep (hk w' hf)) ox (za fun _ _=>rfl)) ?_
 rintro yCM pCM lCM cCM _ hOCM rfl
 obtain rfl:lCM=x.mappings.length:=by have:=hOCM.sl.1;rw[qw (sz:=10) (fun _=>rfl)]at this;omega
 refine Kd (sb [4,3]) (dE (h:=fun Kd=>?_))
 refine Ql 0 rfl hOCM JH qjL rfl rfl rfl hM2 (fun w' hf=>hk w' hf) (za fun _ _=>rfl) ox rfl fun zM zpM zcM hZM=>?_
 rw[← List.flatMap_append]at hZM
 refine Kd (sb [4,3]) (jo rfl rfl (jd [4,3] rfl) (fun _ _ h=>JY JH rfl h) (K7 (jh ?_)))
 refine jZ (σ:=Nat×Ent×Option Addr×Nat) (fun s=>[(2,ptr b2),(3,ptr b3),(4,ptr b4),(5,ptr b5),(36,.slice zpM (x.mappings.length+y.mappings.length) zcM),(37,.int .i64 (((x.mappings.length+y.mappings.length):Nat):Int)),(38,.int .i64 (s.1:Nat))])
  (fun s=>[s.2.1,zM,eI b5 tIP (cOP (xJ x (IntKind.i64.wrap (x.dur+y.dur)) (if x.period<y.period then y.period else x.period)) (.slice pa x.types.length cpa) (.slice ps x.samples.length cps) (.slice s.2.2.1 s.1 s.2.2.2) vN vN (.slice pc x.comments.length cpc) x.per),eI b4 tIP zIP,eI b3 tIP (cOP y (.slice oa y.types.length coa) (.slice os y.samples.length cos) (.slice om y.mappings.length com) (.slice ol y.locs.length col) (.slice of y.funcs.length cof) (.slice oc y.comments.length coc) y.per),eI b2 tIP (cOP x (.slice pa x.types.length cpa) (.slice ps x.samples.length cps) (.slice pm x.mappings.length cpm) (.slice pl x.locs.length cpl) (.slice pf x.funcs.length cpf) (.slice pc x.comments.length cpc) x.per)])
  (fun s _=>s.1≤(x.mappings.length+y.mappings.length)∧Own tMp 10 s.2.1 s.2.2.1 s.1 s.2.2.2 ((((x.mappings++y.mappings).mapIdx rnM).take s.1).flatMap qdM)) (fun s=>(x.mappings.length+y.mappings.length) - s.1)
  (0,qQ tMp,none,0) sR (fun w' hH hf=>⟨Hp.off hH,Nat.zero_le _,Own.nil⟩) ?_
 rintro ⟨kM,yM,qM,dzM⟩ wM ⟨hkM,hOM⟩ hfM hHM KLM hKLM
 try dsimp only at hkM hOM
 refine C.begin _ _ hfM hHM ?_
 try dsimp only
 refine sQ fun K8=>jb (jS (k:=K8 (sQ fun K9=>?_)))
 refine jq rfl (fun h39=>?_) (fun h39=>?_)
 ·have hk':kM<(x.mappings.length+y.mappings.length):=by omega
  have hkx:kM<(x.mappings++y.mappings).length:=by rw[lA];omega
  have hkl:kM<((x.mappings++y.mappings).mapIdx rnM).length:=by rw[List.length_mapIdx,lA];omega
  have hlk:((x.mappings++y.mappings).mapIdx rnM)[kM]=rnM kM (x.mappings++y.mappings)[kM]:=by rw[List.getElem_mapIdx]
  obtain ⟨hon,hpe⟩:=hZM.pos ox
  refine jg (K9 (sQ fun K10=>jh (sQ fun K11=>jb (jn rfl (fun _ _ h=>zZ kM JH Ky rfl hpe rfl rfl hk' h) ?_))))
  refine jp rfl (fun a w ha hH hf=>kD (vs:=qdM (x.mappings++y.mappings)[kM]) qcU Ky rfl rfl (hZM.cellsA (hH.get (i:=1) rfl hon) (fun _=>rfl) (gE hkx)) ha) ?_
  refine jW (zs:=[(.int .u64 0),(.int .u64 0),(.int .u64 0),(.int .u64 0),(.string ⟨#[]⟩),(.string ⟨#[]⟩),(.bool false),(.bool false),(.bool false),(.bool false)]) qeS rfl fun b7=>?_
  refine yt 0 rfl rfl rfl rfl Ky rfl rfl rfl rfl rfl ?_
  refine K11 (sQ fun K12=>jb (jF 3 kW QB (k:=jH 3 Yw (k:=jE JH (k:=jI (k:=?_))))))
  refine jn rfl (fun _ _ h=>qO ru3 xu rfl h) ?_
  refine jV (u:=.int .u64 ((kM+1:Nat):Int)) (congrArg (Value.int .u64) (yY ox)) ?_
  refine jF 0 Xf kU (k:=jB [_,_,_,_,_,_,_,_,_,_] [_,_,_,_,_,_,_] 0 kU (k:=K12 (CJ.t [(2,_),(3,_),(4,_),(5,_),(7,_),(36,_),(37,_),(38,_)] (k:=jb (jF 3 kW QB (k:=jH 3 Yw (k:=?_)))))))
  refine jp rfl (fun a w ha hH hf=>vo (vs:=[_,_,_,_,_,_,_,_,_,_]) 0 rfl rfl qcU Ky rfl rfl rfl ha hH) (kj JH Ky qeS rfl rfl rfl rfl rfl fun b51=>?_)
  refine qY 1 rfl hOM JH qjL rfl rfl rfl rfl rfl ox rfl fun y52 p52 c52 hO52=>?_
  refine jF 3 kW QB (k:=jB [_,_,_,_,_,_,_,_,_,_,_,_,_,_] [_,_,_,_,_,_,_] 3 QB (k:=K10 (jb (jI (k:=jM (k:=jw (ji ?_)))))))
  exact fun w' hH hf=>hKLM (kM+1,y52,p52,c52) _ w' ⟨hk',by rw[JP hkl,hlk];exact hO52⟩ hf (hH.drop 0) (by simp only;omega) sR
 ·obtain rfl:kM=(x.mappings.length+y.mappings.length):=by omega
  rw[tL (by rw[List.length_mapIdx,lA];exact Nat.le_refl _)]at hOM
  clear hKLM hkM h39
  refine jt (K6 (sQ fun K13=>sQ fun K14=>jC 8 (lts [0,1,3,4,7]++(2,false)::(5,false)::lts [6]) [5,4] rfl (by kernel_rfl) (by kernel_rfl) (dF [5,4] 5 kW Qz (k:=dH [5,4] 0 Yu (k:=dF [5,4] 5 kW Qz (k:=dH [5,4] 1 Yu (k:=dM [5,4] (k:=dE (h:=fun Kd=>?_)))))))))
  refine Vo (T:=tFn) (sz:=5) (φ:=fun xs=>xs=x.funcs.flatMap qdN) Tryz.call52 rfl rfl (fun w' hH hf=>qfP w' _ _ _ (hF1.keep (hk w' hf)) ox (za fun _ _=>rfl)) ?_
  rintro yCF pCF lCF cCF _ hOCF rfl
  obtain rfl:lCF=x.funcs.length:=by have:=hOCF.sl.1;rw[qw (sz:=5) (fun _=>rfl)]at this;omega
  refine Kd (sb [6,5]) (dE (h:=fun Kd=>?_))
  refine Ql 0 rfl hOCF JF qjJ rfl rfl rfl hF2 (fun w' hf=>hk w' hf) (za fun _ _=>rfl) ox rfl fun zF zpF zcF hZF=>?_
  rw[← List.flatMap_append]at hZF
  refine Kd (sb [6,5]) (jo rfl rfl (jd [6,5] rfl) (fun _ _ h=>JY JF rfl h) (K14 (CJ.t [(2,_),(3,_),(4,_),(5,_),(60,_),(61,_),(62,_)] (k:=jh ?_))))
  refine jZ (σ:=Nat×Ent×Option Addr×Nat) (fun s=>[(2,ptr b2),(3,ptr b3),(4,ptr b4),(5,ptr b5),(60,.slice zpF (x.funcs.length+y.funcs.length) zcF),(61,.int .i64 (((x.funcs.length+y.funcs.length):Nat):Int)),(62,.int .i64 (s.1:Nat))])
   (fun s=>[s.2.1,zF,yM,zM,eI b5 tIP (cOP (xJ x (IntKind.i64.wrap (x.dur+y.dur)) (if x.period<y.period then y.period else x.period)) (.slice pa x.types.length cpa) (.slice ps x.samples.length cps) (.slice qM (x.mappings.length+y.mappings.length) dzM) vN (.slice s.2.2.1 s.1 s.2.2.2) (.slice pc x.comments.length cpc) x.per),eI b4 tIP zIP,eI b3 tIP (cOP y (.slice oa y.types.length coa) (.slice os y.samples.length cos) (.slice om y.mappings.length com) (.slice ol y.locs.length col) (.slice of y.funcs.length cof) (.slice oc y.comments.length coc) y.per),eI b2 tIP (cOP x (.slice pa x.types.length cpa) (.slice ps x.samples.length cps) (.slice pm x.mappings.length cpm) (.slice pl x.locs.length cpl) (.slice pf x.funcs.length cpf) (.slice pc x.comments.length cpc) x.per)])
   (fun s _=>s.1≤(x.funcs.length+y.funcs.length)∧Own tFn 5 s.2.1 s.2.2.1 s.1 s.2.2.2 ((((x.funcs++y.funcs).mapIdx rnF).take s.1).flatMap qdN)) (fun s=>(x.funcs.length+y.funcs.length) - s.1)
   (0,qQ tFn,none,0) sR (fun w' hH hf=>⟨Hp.off hH,Nat.zero_le _,Own.nil⟩) ?_
  rintro ⟨kF,yF,qF,dzF⟩ wF ⟨hkF,hOF⟩ hfF hHF KLF hKLF
  try dsimp only at hkF hOF
  refine C.begin _ _ hfF hHF ?_
  try dsimp only
  refine sQ fun K15=>jb (jS (k:=K15 (sQ fun K16=>?_)))
  refine jq rfl (fun h63=>?_) (fun h63=>?_)
  ·have hk':kF<(x.funcs.length+y.funcs.length):=by omega
   have hkx:kF<(x.funcs++y.funcs).length:=by rw[lA];omega
   have hkl:kF<((x.funcs++y.funcs).mapIdx rnF).length:=by rw[List.length_mapIdx,lA];omega
   have hlk:((x.funcs++y.funcs).mapIdx rnF)[kF]=rnF kF (x.funcs++y.funcs)[kF]:=by rw[List.getElem_mapIdx]
   obtain ⟨hon,hpe⟩:=hZF.pos ox
   refine jg (K16 (sQ fun K17=>jh (sQ fun K18=>jb (jn rfl (fun _ _ h=>zZ kF JF Kx rfl hpe rfl rfl hk' h) ?_))))
   refine jp rfl (fun a w ha hH hf=>kD (vs:=qdN (x.funcs++y.funcs)[kF]) qcT Kx rfl rfl (hZF.cellsA (hH.get (i:=1) rfl hon) (fun _=>rfl) (gE hkx)) ha) ?_
   refine jW (zs:=[(.int .u64 0),(.string ⟨#[]⟩),(.string ⟨#[]⟩),(.string ⟨#[]⟩),(.int .i64 0)]) qeR rfl fun b9=>?_
   refine yt 0 rfl rfl rfl rfl Kx rfl rfl rfl rfl rfl ?_
   refine K18 (sQ fun K19=>jb (jF 5 kW Qz (k:=jH 5 Yu (k:=jE JF (k:=jI (k:=?_))))))
   refine jn rfl (fun _ _ h=>qO ru3 xu rfl h) ?_
   refine jV (u:=.int .u64 ((kF+1:Nat):Int)) (congrArg (Value.int .u64) (yY ox)) ?_
   refine jF 0 ZI kU (k:=jB [_,_,_,_,_] [_,_,_,_,_,_,_,_,_] 0 kU (k:=K19 (CJ.t [(2,_),(3,_),(4,_),(5,_),(9,_),(60,_),(61,_),(62,_)] (k:=jb (jF 5 kW Qz (k:=jH 5 Yu (k:=?_)))))))
   refine jp rfl (fun a w ha hH hf=>vo (vs:=[_,_,_,_,_]) 0 rfl rfl qcT Kx rfl rfl rfl ha hH) (kj JF Kx qeR rfl rfl rfl rfl rfl fun b75=>?_)
   refine qY 1 rfl hOF JF qjJ rfl rfl rfl rfl rfl ox rfl fun y76 p76 c76 hO76=>?_
   refine jF 5 kW Qz (k:=jB [_,_,_,_,_,_,_,_,_,_,_,_,_,_] [_,_,_,_,_,_,_,_,_] 5 Qz (k:=K17 (jb (jI (k:=jM (k:=jw (ji ?_)))))))
   exact fun w' hH hf=>hKLF (kF+1,y76,p76,c76) _ w' ⟨hk',by rw[JP hkl,hlk];exact hO76⟩ hf (hH.drop 0) (by simp only;omega) sR
  ·obtain rfl:kF=(x.funcs.length+y.funcs.length):=by omega
   rw[tL (by rw[List.length_mapIdx,lA];exact Nat.le_refl _)]at hOF
   clear hKLF hkF h63
   refine jt (K13 (sQ fun K20=>sQ fun K21=>jC 8 (lts [0,1,3,4,7]++(2,false)::(5,false)::lts [6]) [7,6] rfl (by kernel_rfl) (by kernel_rfl) (dF [7,6] 4 kW QA (k:=dH [7,6] 0 Yv (k:=dF [7,6] 4 kW QA (k:=dH [7,6] 1 Yv (k:=dM [7,6] (k:=dE (h:=fun Kd=>?_)))))))))
   refine Vo (T:=tLc) (sz:=4) (φ:=fun xs=>xs=ql1.flatMap JM) Tryz.call53 rfl rfl (fun w' hH hf=>qfN w' _ _ _ (hL1.keep (hk w' hf)) ox sl1) ?_
   rintro yCL pCL lCL cCL _ hOCL rfl
   obtain rfl:lCL=x.locs.length:=by have:=hOCL.sl.1;rw[qw (sz:=4) (fun _=>rfl)]at this;omega
   refine Kd (sb [8,7]) (dE (h:=fun Kd=>?_))
   refine Ql 0 rfl hOCL JG qjK rfl rfl rfl hL2 (fun w' hf=>hk w' hf) sl2 ox rfl fun zL zpL zcL hZL=>?_
   rw[← List.flatMap_append]at hZL
   refine Kd (sb [8,7]) (jo rfl rfl (jd [8,7] rfl) (fun _ _ h=>JY JG rfl h) (K21 (CJ.t [(2,_),(3,_),(4,_),(5,_),(84,_),(85,_),(86,_)] (k:=jh ?_))))
   intro vL hHv hfv
   have hMp:OS tMp 10 vL _ _:=hOM.os hHv (i:=3) rfl
   have hFn:OS tFn 5 vL _ _:=hOF.os hHv (i:=1) rfl
   have hH0:=(((hHv.drop 1).drop 1).drop 1).drop 1
   refine vk (σ:=Nat×List (vP×Value)×Ent×Option Addr×Nat) (fun s=>[(2,ptr b2),(3,ptr b3),(4,ptr b4),(5,ptr b5),(84,.slice zpL (x.locs.length+y.locs.length) zcL),(85,.int .i64 (((x.locs.length+y.locs.length):Nat):Int)),(86,.int .i64 (s.1:Nat))])
    (fun s w'=>s.1≤(x.locs.length+y.locs.length)∧Hp ⟨w,w.heap.size,[]⟩ w' [s.2.2.1,zL,eI b5 tIP (cOP (xJ x (IntKind.i64.wrap (x.dur+y.dur)) (if x.period<y.period then y.period else x.period)) (.slice pa x.types.length cpa) (.slice ps x.samples.length cps) (.slice qM (x.mappings.length+y.mappings.length) dzM) (.slice s.2.2.2.1 s.1 s.2.2.2.2) (.slice qF (x.funcs.length+y.funcs.length) dzF) (.slice pc x.comments.length cpc) x.per),eI b4 tIP zIP,eI b3 tIP (cOP y (.slice oa y.types.length coa) (.slice os y.samples.length cos) (.slice om y.mappings.length com) (.slice ol y.locs.length col) (.slice of y.funcs.length cof) (.slice oc y.comments.length coc) y.per),eI b2 tIP (cOP x (.slice pa x.types.length cpa) (.slice ps x.samples.length cps) (.slice pm x.mappings.length cpm) (.slice pl x.locs.length cpl) (.slice pf x.funcs.length cpf) (.slice pc x.comments.length cpc) x.per)]∧Fm.ok ⟨w,w.heap.size,[]⟩ w'∧Fr w.heap.size [tIP,tLc] vL w'∧s.2.1.map (·.1)=((x.locs++y.locs.map (yf x.mappings.length x.funcs.length)).mapIdx rnL).take s.1∧Own tLc 4 s.2.2.1 s.2.2.2.1 s.1 s.2.2.2.2 (s.2.1.flatMap JM)∧qjZ w w' s.2.1) (fun s=>(x.locs.length+y.locs.length) - s.1)
    (0,[],qQ tLc,none,0) sR ⟨Nat.zero_le _,Hp.off hH0,hfv,Fr.refl _ _ _,rfl,Own.nil,fun q hq=>(by cases hq)⟩ ?_
   clear hH0 hHv
   rintro ⟨kL,lq,yL,qL,dzL⟩ u ⟨hkL,hHu,hfu,hFu,hlq,hOL,hLJ⟩ KL hKL
   try dsimp only at hkL hHu hfu hFu hlq hOL hLJ
   have hwu:w.heap.size≤u.heap.size:=hfu.size
   have hku:=Je (W:=[tIP,tLc]) (hk u hfu) (Nat.le_refl _)
   refine C.begin ⟨u,w.heap.size,[tIP,tLc]⟩ [yL,zL,eI b5 tIP (cOP (xJ x (IntKind.i64.wrap (x.dur+y.dur)) (if x.period<y.period then y.period else x.period)) (.slice pa x.types.length cpa) (.slice ps x.samples.length cps) (.slice qM (x.mappings.length+y.mappings.length) dzM) (.slice qL kL dzL) (.slice qF (x.funcs.length+y.funcs.length) dzF) (.slice pc x.comments.length cpc) x.per),eI b4 tIP zIP,eI b3 tIP (cOP y (.slice oa y.types.length coa) (.slice os y.samples.length cos) (.slice om y.mappings.length com) (.slice ol y.locs.length col) (.slice of y.funcs.length cof) (.slice oc y.comments.length coc) y.per),eI b2 tIP (cOP x (.slice pa x.types.length cpa) (.slice ps x.samples.length cps) (.slice pm x.mappings.length cpm) (.slice pl x.locs.length cpl) (.slice pf x.funcs.length cpf) (.slice pc x.comments.length cpc) x.per)] jx (Hp.again (Nat.le_refl _) hHu (yV.own (.own (.row (.row (.row (.row .nil rfl) rfl) rfl) rfl) hZL rfl) hOL rfl)) ?_
   try dsimp only
   refine sQ fun K22=>jb (jS (k:=K22 (sQ fun K23=>?_)))
   refine jq rfl (fun h87=>?_) (fun h87=>?_)
   ·have hk':kL<(x.locs.length+y.locs.length):=by omega
    have hkx:kL<(ql1++ql2).length:=by rw[lA];omega
    have hkl:kL<((x.locs++y.locs.map (yf x.mappings.length x.funcs.length)).mapIdx rnL).length:=by rw[List.length_mapIdx,lA,List.length_map];omega
    have hkz:kL<(x.locs++y.locs.map (yf x.mappings.length x.funcs.length)).length:=by rw[lA,List.length_map];omega
    obtain ⟨q0,hq0⟩:∃q0,(ql1++ql2)[kL]? =some q0:=⟨_,gE hkx⟩
    have hll:((x.locs++y.locs.map (yf x.mappings.length x.funcs.length)).mapIdx rnL)[kL]? =some ((x.locs++y.locs.map (yf x.mappings.length x.funcs.length)).mapIdx rnL)[kL]:=gE hkl
    have hlk:((x.locs++y.locs.map (yf x.mappings.length x.funcs.length)).mapIdx rnL)[kL]=rnL kL (x.locs++y.locs.map (yf x.mappings.length x.funcs.length))[kL]:=by rw[List.getElem_mapIdx]
    obtain ⟨hon,hpe⟩:=hZL.pos ox
    refine jg (K23 (sQ fun K24=>jh (sQ fun K25=>jb (jM (k:=?_)))))
    refine jn rfl (fun _ _ h=>zZ kL JG zg rfl hpe rfl rfl hk' h) (jp rfl (fun a w ha hH hf=>kD (vs:=JM q0) XA zg rfl rfl (hZL.cellsA (hH.get (i:=1) rfl hon) (fun _=>rfl) hq0) ha) (jW (zs:=[(.int .u64 0),(.int .i64 0),(.int .u64 0),(.slice none 0 0)]) YL rfl fun b11=>jA (k:=?_)))
    have hsq0:(JM q0).all scal=true:=by
     have hm:=mG hq0
     have h1:∀c∈JM q0,scal c=true:=fun c hc=>by
      rcases mA hm with h|h
      ·exact List.all_eq_true.1 sl1 c (List.mem_flatMap.2 ⟨q0,h,hc⟩)
      ·exact List.all_eq_true.1 sl2 c (List.mem_flatMap.2 ⟨q0,h,hc⟩)
     exact List.all_eq_true.2 h1
    refine yt (vs:=JM q0) 0 rfl rfl rfl rfl zg rfl rfl rfl hsq0 rfl ?_
    refine K25 (sQ fun K26=>jb (jM (k:=jI (k:=?_))))
    refine jn rfl (fun _ _ h=>qO ru3 xu rfl h) ?_
    refine jV (u:=.int .u64 ((kL+1:Nat):Int)) (congrArg (Value.int .u64) (yY ox)) ?_
    refine jF 0 zr kU (k:=jB [_,_,_,_] [_,_,_,_,_,_,_] 0 kU (k:=K26 (CJ.t [(2,_),(3,_),(4,_),(5,_),(10,_),(11,_),(84,_),(85,_),(86,_)] (k:=?_))))
    refine qP fun K27 hK27=>?_
    have hJ99:∀(u2:World) (q:vP×Value),Fr w.heap.size [tIP,tLc] u u2→LnJ w u2 q→q.1=((x.locs++y.locs.map (yf x.mappings.length x.funcs.length)).mapIdx rnL)[kL]→∀v',Fm.ok ⟨u2,w.heap.size,[tIP,tLc]⟩ v'→Hp ⟨u2,w.heap.size,[tIP,tLc]⟩ v' (eI b11 tLc (JM q)::[yL,zL,eI b5 tIP (cOP (xJ x (IntKind.i64.wrap (x.dur+y.dur)) (if x.period<y.period then y.period else x.period)) (.slice pa x.types.length cpa) (.slice ps x.samples.length cps) (.slice qM (x.mappings.length+y.mappings.length) dzM) (.slice qL kL dzL) (.slice qF (x.funcs.length+y.funcs.length) dzF) (.slice pc x.comments.length cpc) x.per),eI b4 tIP zIP,eI b3 tIP (cOP y (.slice oa y.types.length coa) (.slice os y.samples.length cos) (.slice om y.mappings.length com) (.slice ol y.locs.length col) (.slice of y.funcs.length cof) (.slice oc y.comments.length coc) y.per),eI b2 tIP (cOP x (.slice pa x.types.length cpa) (.slice ps x.samples.length cps) (.slice pm x.mappings.length cpm) (.slice pl x.locs.length cpl) (.slice pf x.funcs.length cpf) (.slice pc x.comments.length cpc) x.per)])→N K27 155 [(2,ptr b2),(3,ptr b3),(4,ptr b4),(5,ptr b5),(11,ptr b11),(84,.slice zpL (x.locs.length+y.locs.length) zcL),(85,.int .i64 (((x.locs.length+y.locs.length):Nat):Int)),(86,.int .i64 (kL:Nat))] v':=by
     rintro u2 ⟨qL0,qV⟩ hFu2 hLq hqe v7 hf7 hH7
     obtain ⟨pq,nq,cq,e⟩:=hLq.sl
     obtain rfl:qV=.slice pq nq cq:=e
     replace hqe:qL0=((x.locs++y.locs.map (yf x.mappings.length x.funcs.length)).mapIdx rnL)[kL]:=hqe
     refine hK27 ⟨u2,w.heap.size,[tIP,tLc]⟩ _ (eI b11 tLc (JM (qL0,Value.slice pq nq cq))::[yL,zL,eI b5 tIP (cOP (xJ x (IntKind.i64.wrap (x.dur+y.dur)) (if x.period<y.period then y.period else x.period)) (.slice pa x.types.length cpa) (.slice ps x.samples.length cps) (.slice qM (x.mappings.length+y.mappings.length) dzM) (.slice qL kL dzL) (.slice qF (x.funcs.length+y.funcs.length) dzF) (.slice pc x.comments.length cpc) x.per),eI b4 tIP zIP,eI b3 tIP (cOP y (.slice oa y.types.length coa) (.slice os y.samples.length cos) (.slice om y.mappings.length com) (.slice ol y.locs.length col) (.slice of y.funcs.length cof) (.slice oc y.comments.length coc) y.per),eI b2 tIP (cOP x (.slice pa x.types.length cpa) (.slice ps x.samples.length cps) (.slice pm x.mappings.length cpm) (.slice pl x.locs.length cpl) (.slice pf x.funcs.length cpf) (.slice pc x.comments.length cpc) x.per)]) ?_ v7 hH7 hf7
     refine jb (jF 4 kW QA (k:=jH 3 Yv (k:=?_)))
     refine jp rfl (fun a w ha hH hf=>vo (vs:=[_,_,_,_]) 0 rfl rfl XA zg rfl rfl rfl ha hH) (kj JG zg YL rfl rfl rfl rfl rfl fun b111=>?_)
     refine qY 1 rfl hOL JG qjK rfl rfl rfl rfl rfl ox rfl fun y112 p112 c112 hO112=>?_
     refine jF 4 kW QA (k:=jB [_,_,_,_,_,_,_,_,_,_,_,_,_,_] [_,_,_,_,_,_,_] 3 QA (k:=K24 (jb (jI (k:=jM (k:=jw (ji ?_)))))))
     exact fun w' hH hf=>by
      have hf':Fr w.heap.size [tIP,tLc] u2 w':=hf
      have hs2:w.heap.size≤u2.heap.size:=Nat.le_trans hwu hFu2.size
      refine hKL (kL+1,lq++[(qL0,Value.slice pq nq cq)],y112,p112,c112) _ w' ⟨hk',(hH.drop 0).back hs2 (.inl (Nat.le_refl _)),qW (qW hfu (.inl (Nat.le_refl _)) hFu2) (.inl (Nat.le_refl _)) hf,(hFu.trans hFu2 (.inr ⟨Nat.le_refl _,fun _ h=>h⟩)).trans hf' (.inr ⟨Nat.le_refl _,fun _ h=>h⟩),?_,?_,fun z hz=>?_⟩ (by simp only;omega) sR
      ·show (lq++[(qL0,Value.slice pq nq cq)]).map (·.1)=_
       rw[List.map_append,hlq, ← tG hkl, ← hqe];rfl
      ·show Own tLc 4 y112 p112 (kL+1) c112 ((lq++[(qL0,Value.slice pq nq cq)]).flatMap JM)
       rw[List.flatMap_append];exact hO112
      ·rcases mA hz with hz|hz
       ·exact ((hLJ z hz).imp id fun h=>h.mono (jk hFu2 rfl)).imp id fun h=>h.mono (jk hf' rfl)
       ·obtain rfl:z=(qL0,Value.slice pq nq cq):=by simpa using hz
        exact hLq.imp id fun h=>h.mono (jk hf' rfl)
    clear hK27
    refine sQ fun K28=>jb (jM (k:=jF 4 kW QA (k:=jH 6 Yv (k:=jE JG (k:=?_)))))
    refine jn rfl (fun _ _ h=>Jl rfl rfl h) (K28 (CJ.t [(2,_),(3,_),(4,_),(5,_),(11,_),(84,_),(85,_),(86,_),(99,_)] (k:=?_)))
    refine jq rfl (fun h99=>?_) (fun h99=>?_)
    ·have hge:x.locs.length≤kL:=by omega
     have hq2:ql2[kL - x.locs.length]? =some q0:=by rw[List.getElem?_append_right ox,lnl1]at hq0;exact hq0
     have hy1:y.locs[kL - x.locs.length]? =some q0.1:=by rw[← el2,List.getElem?_map,hq2];rfl
     have hlq1:((x.locs++y.locs.map (yf x.mappings.length x.funcs.length)).mapIdx rnL)[kL]=rnL kL (yf x.mappings.length x.funcs.length q0.1):=by
      rw[hlk]
      congr 1
      have:(x.locs++y.locs.map (yf x.mappings.length x.funcs.length))[kL]? =some (yf x.mappings.length x.funcs.length q0.1):=by rw[List.getElem?_append_right hge,List.getElem?_map,hy1];rfl
      rw[gE hkz]at this
      exact Option.some.inj this
     obtain ⟨lv0,g1, -, -, -,g5⟩:=rl2 q0 (mG hq2)
     have g6:q0.2=lv0:=by unfold JM at g1;simpa using g1
     rw[← g6]at g5
     obtain ⟨g7,g8,g9⟩:=hy.tab.locs q0.1 (mG hy1)
     have ny:=hy.tab.m.2.2
     have nf:=hy.tab.f.2.2
     simp only[List.length_map]at ny nf
     refine jb (jp rfl (fun a w ha hH hf=>vo (vs:=[_,_,_,_]) 0 rfl rfl XA zg rfl rfl rfl ha hH) (jF 3 kW QB (k:=jH 6 Yw (k:=jE JH (k:=jF 5 kW Qz (k:=jH 6 Yu (k:=jE JF (k:=?_))))))))
     refine kQ (R:=fun w5 v w6=>(∃lv',v=.agg (List.toArray (JM (yf x.mappings.length x.funcs.length (rnL kL q0.1),lv')))∧OS tLn 2 w6 lv' ((yf x.mappings.length x.funcs.length (rnL kL q0.1)).lines.flatMap KV))∧Fr 0 [] w5 w6) Tryz.call54 rfl rfl (fun w5 hH hf=>qjb w5 (rnL kL q0.1) q0.2 x.mappings.length x.funcs.length (g5.keep (JD.keep (hku w5 hf)) (hku w5 hf)) ⟨g7.1,by show q0.1.mapping<1000;omega⟩ (by show q0.1.lines.length≤1000;omega) (fun z hz=>⟨(g9 z hz).1,by have:=(g9 z hz).2;omega⟩) ox ox) fun w5 v w6 hH5 hf5 hR=>?_
     obtain ⟨⟨lv',rfl,hOln⟩,hf6⟩:=hR
     have hFu6:Fr w.heap.size [tIP,tLc] u w6:=Fr.trans hf5 (hf6.quiet w.heap.size [tIP,tLc]) (.inr ⟨Nat.le_refl _,fun _ h=>h⟩)
     obtain ⟨_,pz,lz,cz,rfl, -⟩:=id hOln
     refine J.begin ⟨w6,w.heap.size,[tIP,tLc]⟩ (eI b11 tLc [.int .u64 ((kL+1:Nat):Int),.int .i64 q0.1.mapping,.int .u64 q0.1.addr,q0.2]::[yL,zL,eI b5 tIP (cOP (xJ x (IntKind.i64.wrap (x.dur+y.dur)) (if x.period<y.period then y.period else x.period)) (.slice pa x.types.length cpa) (.slice ps x.samples.length cps) (.slice qM (x.mappings.length+y.mappings.length) dzM) (.slice qL kL dzL) (.slice qF (x.funcs.length+y.funcs.length) dzF) (.slice pc x.comments.length cpc) x.per),eI b4 tIP zIP,eI b3 tIP (cOP y (.slice oa y.types.length coa) (.slice os y.samples.length cos) (.slice om y.mappings.length com) (.slice ol y.locs.length col) (.slice of y.funcs.length cof) (.slice oc y.comments.length coc) y.per),eI b2 tIP (cOP x (.slice pa x.types.length cpa) (.slice ps x.samples.length cps) (.slice pm x.mappings.length cpm) (.slice pl x.locs.length cpl) (.slice pf x.funcs.length cpf) (.slice pc x.comments.length cpc) x.per)]) jx (Hp.again hwu (hH5.fr hf6) (yV.row (.own (.own (.row (.row (.row (.row .nil rfl) rfl) rfl) rfl) hZL rfl) hOL rfl) rfl)) ?_
     refine yt (vs:=JM (yf x.mappings.length x.funcs.length (rnL kL q0.1),Value.slice pz lz cz)) 0 rfl rfl rfl rfl zg rfl rfl rfl rfl rfl ?_
     refine jw (ji ?_)
     first
     |exact fun v' hH hf=>N.sub' (hJ99 w6 (yf x.mappings.length x.funcs.length (rnL kL q0.1),Value.slice pz lz cz) hFu6 (.inr hOln) hlq1.symm v' hf hH) ⟨rfl,rfl,rfl,rfl,rfl,rfl,rfl,rfl,trivial⟩
     |exact fun v' hH hf=>N.sub' (hJ99 u (rnL kL q0.1,q0.2) (Fr.refl _ _ _) (.inl g5) hlq1.symm v' hf hH) ⟨rfl,rfl,rfl,rfl,rfl,rfl,rfl,rfl,trivial⟩
    ·have hlt:kL<x.locs.length:=by omega
     have hq2:ql1[kL]? =some q0:=by rw[aq ox]at hq0;exact hq0
     have hy1:x.locs[kL]? =some q0.1:=by rw[← el1,List.getElem?_map,hq2];rfl
     have hlq1:((x.locs++y.locs.map (yf x.mappings.length x.funcs.length)).mapIdx rnL)[kL]=rnL kL q0.1:=by
      rw[hlk]
      congr 1
      have:(x.locs++y.locs.map (yf x.mappings.length x.funcs.length))[kL]? =some q0.1:=by rw[aq hlt,hy1]
      rw[gE hkz]at this
      exact Option.some.inj this
     obtain ⟨lv0,g1, -, -, -,g5⟩:=rl1 q0 (mG hq2)
     have g6:q0.2=lv0:=by unfold JM at g1;simpa using g1
     rw[← g6]at g5
     refine jg (ji ?_)
     first
     |exact fun v' hH hf=>N.sub' (hJ99 w6 (yf x.mappings.length x.funcs.length (rnL kL q0.1),Value.slice pz lz cz) hFu6 (.inr hOln) hlq1.symm v' hf hH) ⟨rfl,rfl,rfl,rfl,rfl,rfl,rfl,rfl,trivial⟩
     |exact fun v' hH hf=>N.sub' (hJ99 u (rnL kL q0.1,q0.2) (Fr.refl _ _ _) (.inl g5) hlq1.symm v' hf hH) ⟨rfl,rfl,rfl,rfl,rfl,rfl,rfl,rfl,trivial⟩
   ·obtain rfl:kL=(x.locs.length+y.locs.length):=by omega
    rw[tL (by rw[List.length_mapIdx,lA,List.length_map];exact Nat.le_refl _)]at hlq
    clear hKL hkL h87
    refine jt (K20 (sQ fun K29=>jb (jF 2 kW Vy (k:=jH 5 ZQ (k:=?_)))))
    refine Vo (T:=tSm) (sz:=4) (φ:=fun xs=>xs=qs1.flatMap ZO) Tryz.call55 rfl rfl (fun w' hH hf=>qfK w' _ _ _ (hS1.keep (hku w' hf)) ox ss1) ?_
    rintro ySm pSm lSm cSm _ hOSm rfl
    obtain rfl:lSm=x.samples.length:=by have:=hOSm.sl.1;rw[qw (sz:=4) (fun _=>rfl)]at this;omega
    refine jF 2 kW Vy (k:=jB [_,_,_,_,_,_,_,_,_,_,_,_,_,_] [_,_,_,_,_,_,_] 3 Vy (k:=K29 (CJ.t [(2,_),(3,_),(4,_),(5,_)] (k:=sQ fun K30=>sQ fun K31=>jb (jF 2 kW Vy (k:=jH 5 ZQ (k:=jE KA (k:=jM (k:=K31 (jh ?_))))))))))
    intro vS hHw hfw
    have hfw':Fr w.heap.size [tIP,tLc] u vS:=hfw
    have hFS:Fr w.heap.size [tIP,tLc] vL vS:=hFu.trans hfw' (.inr ⟨Nat.le_refl _,fun _ h=>h⟩)
    have hMp:=hMp.mono (jk hFS rfl)
    have hFn:=hFn.mono (jk hFS rfl)
    have hLc:OS tLc 4 vS _ _:=hOL.os hHw (i:=1) rfl
    have hLJ:=hLJ.fr hfw' rfl
    have hfS:Fm.ok ⟨w,w.heap.size,[]⟩ vS:=qW hfu (.inl (Nat.le_refl _)) hfw
    have hH0:=((hHw.drop 1).drop 1).back (W0:=[]) (w0:=w) hwu (.inl (Nat.le_refl _))
    have gs0:qgg w vS qs1:=fun q hq=>⟨(gs1 q hq).1.imp id fun h=>h.mono fun b cs hb=>hk vS hfS b _ hb,(gs1 q hq).2⟩
    clear hHw hHu
    refine vk (σ:=Nat×List (ku×SV)×Ent×Option Addr×Nat) (fun s=>[(2,ptr b2),(4,ptr b4),(5,ptr b5),(120,.slice os y.samples.length cos),(121,.int .i64 (y.samples.length:Nat)),(122,.int .i64 (s.1:Nat))])
     (fun s w'=>s.1≤y.samples.length∧Hp ⟨w,w.heap.size,[]⟩ w' [s.2.2.1,eI b5 tIP (cOP (xJ x (IntKind.i64.wrap (x.dur+y.dur)) (if x.period<y.period then y.period else x.period)) (.slice pa x.types.length cpa) (.slice s.2.2.2.1 (x.samples.length+s.1) s.2.2.2.2) (.slice qM (x.mappings.length+y.mappings.length) dzM) (.slice qL (x.locs.length+y.locs.length) dzL) (.slice qF (x.funcs.length+y.funcs.length) dzF) (.slice pc x.comments.length cpc) x.per),eI b4 tIP zIP,eI b3 tIP (cOP y (.slice oa y.types.length coa) (.slice os y.samples.length cos) (.slice om y.mappings.length com) (.slice ol y.locs.length col) (.slice of y.funcs.length cof) (.slice oc y.comments.length coc) y.per),eI b2 tIP (cOP x (.slice pa x.types.length cpa) (.slice ps x.samples.length cps) (.slice pm x.mappings.length cpm) (.slice pl x.locs.length cpl) (.slice pf x.funcs.length cpf) (.slice pc x.comments.length cpc) x.per)]∧Fm.ok ⟨w,w.heap.size,[]⟩ w'∧Fr w.heap.size [tIP,tSm] vS w'∧s.2.1.map (·.1)=x.samples++(y.samples.take s.1).map (XN x.locs.length)∧Own tSm 4 s.2.2.1 s.2.2.2.1 (x.samples.length+s.1) s.2.2.2.2 (s.2.1.flatMap ZO)∧qgg w w' s.2.1) (fun s=>y.samples.length - s.1)
     (0,qs1,ySm,pSm,cSm) sR ⟨Nat.zero_le _,hH0,hfS,Fr.refl _ _ _,by rw[es1];simp,hOSm,gs0⟩ ?_
    clear hH0 hfw hfw' hFS hFu hfu hku gs0 hOSm hOL
    rintro ⟨kS,sq,yS,qS,dzS⟩ u3 ⟨hkS,hHu,hfu,hFu,hsq,hOS,hSJ⟩ KS hKS
    try dsimp only at hkS hHu hfu hFu hsq hOS hSJ
    have hwu:w.heap.size≤u3.heap.size:=hfu.size
    have hku:=Je (W:=[tIP,tSm]) (hk u3 hfu) (Nat.le_refl _)
    refine C.begin ⟨u3,w.heap.size,[tIP,tSm]⟩ [yS,eI b5 tIP (cOP (xJ x (IntKind.i64.wrap (x.dur+y.dur)) (if x.period<y.period then y.period else x.period)) (.slice pa x.types.length cpa) (.slice qS (x.samples.length+kS) dzS) (.slice qM (x.mappings.length+y.mappings.length) dzM) (.slice qL (x.locs.length+y.locs.length) dzL) (.slice qF (x.funcs.length+y.funcs.length) dzF) (.slice pc x.comments.length cpc) x.per),eI b4 tIP zIP,eI b3 tIP (cOP y (.slice oa y.types.length coa) (.slice os y.samples.length cos) (.slice om y.mappings.length com) (.slice ol y.locs.length col) (.slice of y.funcs.length cof) (.slice oc y.comments.length coc) y.per),eI b2 tIP (cOP x (.slice pa x.types.length cpa) (.slice ps x.samples.length cps) (.slice pm x.mappings.length cpm) (.slice pl x.locs.length cpl) (.slice pf x.funcs.length cpf) (.slice pc x.comments.length cpc) x.per)] jx (Hp.again (Nat.le_refl _) hHu (yV.own (.row (.row (.row (.row .nil rfl) rfl) rfl) rfl) hOS rfl)) ?_
    try dsimp only
    refine sQ fun K32=>jb (jS (k:=K32 (sQ fun K33=>?_)))
    refine jq rfl (fun h123=>?_) (fun h123=>?_)
    ·have hk':kS<y.samples.length:=by omega
     obtain ⟨bq,oq,cq,eq0,hlcq,hRq,hcellq⟩:=hxs kS y.samples[kS] (gE hk')
     obtain ⟨sa,sv,st,su,rfl,hsa,hsv,hst,hsu⟩:=hRq
     obtain ⟨-, -,hs60, -,hsk⟩:=hy.samples _ (List.getElem_mem hk')
     have hSt:=hsa.slv (g:=fun z=>[Value.int .i64 z]) fun c z h=>h.1
     rw[← qcs]at hSt
     have hsa':=hsa
     have hsv':=hsv
     have hst':=hst
     have hsu':=hsu
     obtain ⟨p1,c1,rfl, -⟩:=hsa.open
     obtain ⟨p2,c2,rfl, -⟩:=hsv.open
     obtain ⟨p3,c3,rfl, -⟩:=hst.open
     obtain ⟨p4,c4,rfl, -⟩:=hsu.open
     have hcq:∀w',Fm.ok ⟨u3,w.heap.size,[tIP,tSm]⟩ w'→∀(j:Nat) (u:Value),_→w'.cell? ⟨bq,oq+kS*4+j,none⟩=some u:=fun w' hf=>hcellq w' (hku w' hf)
     have ny:=hx.tab.l.2.2
     have ny2:=hy.tab.l.2.2
     simp only[List.length_map]at ny ny2
     refine jg (K33 (sQ fun K34=>jh (sQ fun K35=>jb (jn rfl (fun _ _ h=>zZ kS KA zC rfl eq0 rfl rfl hk' h) (jp rfl (fun a w ha hH hf=>kD (vs:=[_,_,_,_]) XY zC rfl rfl (hcq w hf) ha) (jW (zs:=[(.slice none 0 0),(.slice none 0 0),(.slice none 0 0),(.slice none 0 0)]) qaK rfl fun b13=>?_))))))
     refine yt 0 rfl rfl rfl rfl zC rfl rfl rfl rfl rfl ?_
     refine K35 (sQ fun K36=>jb (jF 0 zh Xe (k:=jH 0 ZP (k:=?_))))
     refine Vo (T:=Yp) (sz:=1) (φ:=fun xs=>xs=y.samples[kS].stack.map (.int .i64)) Tryz.call56 rfl rfl (fun w' hH hf=>qfO w' _ _ _ (hSt.keep (hku w' hf)) ox (by simp[List.all_eq_true,scal])) ?_
     rintro yI pI lI cI _ hOI rfl
     obtain rfl:lI=y.samples[kS].stack.length:=by have:=hOI.sl.1;simp at this;omega
     refine jF 0 zh Xe (k:=jB [_,_,_,_] [_,_,_,_,_,_,_] 1 Xe (k:=K36 (sQ fun K37=>sQ fun K38=>jb (jF 0 zh Xe (k:=jH 1 ZP (k:=jE QC (k:=jM (k:=K38 (CJ.t [(2,_),(4,_),(5,_),(13,_),(120,_),(121,_),(122,_),(132,_),(133,_)] (k:=jh ?_))))))))))
     refine jZ (σ:=Nat×Ent) (fun s=>[(2,ptr b2),(4,ptr b4),(5,ptr b5),(13,ptr b13),(120,.slice os y.samples.length cos),(121,.int .i64 (y.samples.length:Nat)),(122,.int .i64 (kS:Nat)),(132,.int .i64 (y.samples[kS].stack.length:Nat)),(133,.int .i64 (s.1:Nat))])
      (fun s=>s.2::eI b13 tSm [.slice pI y.samples[kS].stack.length cI,.slice p2 y.samples[kS].values.length c2,.slice p3 y.samples[kS].texts.length c3,.slice p4 y.samples[kS].nums.length c4]::[yS,eI b5 tIP (cOP (xJ x (IntKind.i64.wrap (x.dur+y.dur)) (if x.period<y.period then y.period else x.period)) (.slice pa x.types.length cpa) (.slice qS (x.samples.length+kS) dzS) (.slice qM (x.mappings.length+y.mappings.length) dzM) (.slice qL (x.locs.length+y.locs.length) dzL) (.slice qF (x.funcs.length+y.funcs.length) dzF) (.slice pc x.comments.length cpc) x.per),eI b4 tIP zIP,eI b3 tIP (cOP y (.slice oa y.types.length coa) (.slice os y.samples.length cos) (.slice om y.mappings.length com) (.slice ol y.locs.length col) (.slice of y.funcs.length cof) (.slice oc y.comments.length coc) y.per),eI b2 tIP (cOP x (.slice pa x.types.length cpa) (.slice ps x.samples.length cps) (.slice pm x.mappings.length cpm) (.slice pl x.locs.length cpl) (.slice pf x.funcs.length cpf) (.slice pc x.comments.length cpc) x.per)])
      (fun s _=>s.1≤y.samples[kS].stack.length∧Own Yp 1 s.2 pI y.samples[kS].stack.length cI (((y.samples[kS].stack.take s.1).map (· +(x.locs.length:Int))++y.samples[kS].stack.drop s.1).map (Value.int .i64))) (fun s=>y.samples[kS].stack.length - s.1)
      (0,yI) sR (fun w' hH hf=>⟨hH,Nat.zero_le _,by simpa using hOI⟩) ?_
     rintro ⟨j,yj⟩ wj ⟨hj,hOj⟩ hfj hHj KJ hKJ
     try dsimp only at hj hOj
     refine C.begin _ _ hfj hHj ?_
     try dsimp only
     refine sQ fun K39=>jb (jS (k:=K39 (sQ fun K40=>?_)))
     refine jq rfl (fun h134=>?_) (fun h134=>?_)
     ·have hj':j<y.samples[kS].stack.length:=by omega
      obtain ⟨hon,hpe⟩:=hOj.pos ox
      have hz:=hsk _ (List.getElem_mem hj')
      refine jg (K40 (sQ fun K41=>jh (sQ fun K42=>jb (jM (k:=jA (k:=K42 ?_))))))
      refine jC 9 (lts [0,1,2,3,4,5,6,7,8]++(9,false)::(10,false)::[]) [1,6,0] rfl (by kernel_rfl) (by kernel_rfl) (dF [1,6,0] 0 zh Xe (k:=dH [1,6,0] 0 ZP (k:=dM [1,6,0] (k:=?_))))
      refine jo rfl rfl (jd [1,6,0] rfl) (fun _ _ h=>zZ j QC so3 rfl hpe rfl rfl hj' h) (vV rfl rfl (jd [1,6,0] rfl) (fun a w ha hS=>kP ag3 rfl (hOj.cell (hS.1 yj zp hon) (qea hj')) ha) (dF [1,6,0] 4 kW QA (k:=dH [1,6,0] 1 Yv (k:=?_))))
      refine jo rfl rfl (jd [1,6,0] rfl) (fun _ _ h=>JY JG rfl h) (jo rfl rfl (jd [1,6,0] rfl) (fun _ _ h=>Yj rfl rfl h) ?_)
      refine zi (u:=.int .i64 (y.samples[kS].stack[j]+(x.locs.length:Nat))) (congrArg (Value.int .i64) (kG ox ox)) ?_
      refine dE (h:=fun Kd=>jn rfl (fun _ _ h=>zZ j QC so3 rfl hpe rfl rfl hj' h) (Kd (.inl rfl) (dE (h:=fun Kd=>?_))))
      refine QV (y:=yj) (o:=0+j*1) 0 rfl hon hOj.ho hOj.hw so3 rfl rfl rfl rfl (by have h:=(hOj.at_ (qea hj')).2.2;have:=(List.getElem?_eq_some_iff.1 h).1;omega) ?_
      refine Kd (.inl rfl) (K41 (CJ.t [(2,_),(4,_),(5,_),(13,_),(120,_),(121,_),(122,_),(132,_),(133,_)] (k:=jb (jI (k:=jM (k:=jw (ji ?_)))))))
      exact fun w' hH hf=>hKJ (j+1,⟨yj.b,yj.T,kH yj.cs (0+j*1) [.int .i64 (y.samples[kS].stack[j]+(x.locs.length:Nat))],true,true,none⟩) _ w' ⟨hj',by
        have h:=hOj.put (o:=j) (v:=.int .i64 (y.samples[kS].stack[j]+(x.locs.length:Nat))) (by simp;omega)
        rw[qiy hj']at h
        simpa using h⟩ hf hH (by simp only;omega) ⟨rfl,rfl,rfl,rfl,rfl,rfl,rfl,rfl,rfl,trivial⟩
     ·obtain rfl:j=y.samples[kS].stack.length:=by omega
      have hOI2:Own Yp 1 yj pI y.samples[kS].stack.length cI ((XN x.locs.length y.samples[kS]).stack.map (Value.int .i64)):=by rw[tL (Nat.le_refl _),List.drop_of_length_le (Nat.le_refl _),List.append_nil]at hOj;exact hOj
      refine jt (K37 (jb (jF 2 kW Vy (k:=jH 3 ZQ (k:=?_)))))
      refine jp rfl (fun a w ha hH hf=>vo (vs:=[_,_,_,_]) 1 rfl rfl XY zC rfl rfl rfl ha hH) (kj KA zC qaK rfl rfl rfl rfl rfl fun b150=>?_)
      refine qY 2 rfl hOS KA qlL rfl rfl rfl rfl rfl ox rfl fun y151 p151 c151 hO151=>?_
      refine jF 2 kW Vy (k:=jB [_,_,_,_,_,_,_,_,_,_,_,_,_,_] [_,_,_,_,_,_,_] 3 Vy (k:=K34 (jb (jI (k:=jM (k:=jw (ji ?_)))))))
      exact fun w' hH hf=>by
       have hf':Fr w.heap.size [tIP,tSm] u3 w':=hf
       refine hKS (kS+1,sq++[(XN x.locs.length y.samples[kS],⟨.slice pI y.samples[kS].stack.length cI,.slice p2 y.samples[kS].values.length c2,.slice p3 y.samples[kS].texts.length c3,.slice p4 y.samples[kS].nums.length c4⟩)],y151,p151,c151) _ w' ⟨hk',((hH.drop 0).drop 0).back hwu (.inl (Nat.le_refl _)),qW hfu (.inl (Nat.le_refl _)) hf,hFu.trans hf' (.inr ⟨Nat.le_refl _,fun _ h=>h⟩),?_,?_,fun z hz=>?_⟩ (by simp only;omega) ⟨rfl,rfl,rfl,rfl,rfl,rfl,trivial⟩
       ·show List.map (fun z:ku×SV=>z.1) (sq++[_])=_
        rw[List.map_append,hsq, ← tG hk',List.map_append,List.append_assoc];rfl
       ·show Own tSm 4 y151 p151 (x.samples.length+kS+1) c151 ((sq++[_]).flatMap ZO)
        rw[List.flatMap_append];exact hO151
       ·rcases mA hz with hz|hz
        ·exact hSJ.fr hf' rfl z hz
        ·obtain rfl:=List.mem_singleton.1 hz
         exact ⟨.inr (hOI2.os hH (i:=0) rfl),hsv',hst',hsu'⟩
    ·obtain rfl:kS=y.samples.length:=by omega
     rw[tL (Nat.le_refl _)]at hsq
     clear hKS hkS h123
     refine jt (K30 (CJ.t [(4,_),(5,_)] (k:=sQ fun K43=>jb ?_)))
     refine jp rfl (fun a w ha hH hf=>vo (vs:=[_,_,_,_,_,_,_,_,_,_,_,_,_,_]) 1 rfl rfl Ki yJ rfl rfl rfl ha hH) ?_
     refine yt 2 rfl rfl rfl rfl yJ rfl rfl rfl rfl rfl ?_
     refine K43 (jj ?_)
     exact Zs Tryz.results17 Ki yJ rfl rfl (fun w' hH hf=>⟨_,hH.get (i:=2) rfl rfl⟩) fun w' hH hf=>by
      have hf':Fr w.heap.size [tIP,tSm] u3 w':=hf
      have hFw:Fr w.heap.size [tIP,tSm] vS w':=hFu.trans hf' (.inr ⟨Nat.le_refl _,fun _ h=>h⟩)
      have hok:Fm.ok ⟨w,w.heap.size,[]⟩ w':=qW hfu (.inl (Nat.le_refl _)) hf
      have hK:vQ w w':=hk w' hok
      have hLJ:=hLJ.fr hFw rfl
      have hSJ:=hSJ.fr hf' rfl
      refine ⟨⟨_,rfl,⟨_,_,_,_,_,_,rfl,hla.keep (xz.keep hK) hK,xj (hOS.os hH (i:=0) rfl) hsq (fun _=>rfl) ox (fun q hq=>?_) (by have:=(yw hx hy).1;omega),xj (f:=fun x=>x) (hMp.mono (jk hFw rfl)) (by simp[qy]) (fun _=>rfl) ox (fun m hm=>⟨rfl,rJ.maps m hm⟩) (by simp[qy];omega),
       xj (hLc.mono (jk hFw rfl)) hlq (fun _=>rfl) ox (fun q hq=>?_) (by have:=(yw hx hy).2.2.2;omega),xj (f:=fun x=>x) (hFn.mono (jk hFw rfl)) (by simp[qy]) (fun _=>rfl) ox (fun m hm=>⟨rfl,rJ.funs m hm⟩) (by simp[qy];omega),hlc.keep (xa.keep hK) hK,rJ.time,rJ.dur,rJ.period⟩⟩,qhK hok⟩
      ·have hm:q.1∈(qy x y).samples:=by show q.1∈x.samples++y.samples.map (XN x.locs.length);rw[← hsq];exact mq hq
       obtain ⟨-, -,m3, -,m5⟩:=Qk hx hy ht q.1 hm
       have m6:((qy x y).locs.length:Int)≤120:=by have:=(yw hx hy).2.2.2;omega
       obtain ⟨h1,h2,h3,h4⟩:=hSJ q hq
       exact ⟨_,_,_,_,rfl,h1.elim (fun h=>h.keep (vu.keep hK) hK) fun h=>Jd h (fun z hz=>⟨rfl,by have:=m5 z hz;exact kG ox ox⟩) ox,h2.keep (vu.keep hK) hK,h3.keep (xA.keep hK) hK,h4.keep (yW.keep hK) hK⟩
      ·have hm:q.1∈(qy x y).locs:=by show q.1∈((x.locs++y.locs.map (yf x.mappings.length x.funcs.length)).mapIdx rnL);rw[← hlq];exact mq hq
       obtain ⟨⟨m1,m2⟩,m3,m4⟩:=Kf hx hy q.1 hm
       obtain ⟨r1,r2,r3⟩:=rJ.locs q.1 hm
       have m6:((qy x y).mappings.length:Int)≤120:=by have:=(yw hx hy).2.1;omega
       have m7:((qy x y).funcs.length:Int)≤120:=by have:=(yw hx hy).2.2.1;omega
       exact ⟨_,rfl,r1,kG ox ox,r2,(hLJ q hq).elim (fun h=>h.keep (JD.keep hK) hK) fun h=>xj (f:=fun x=>x) h zp (fun _=>rfl) ox (fun n hn=>⟨rfl,by have:=m4 n hn;exact kG ox ox,r3 n hn⟩) ox⟩
end Go.Proofs.YtifdadlhmlhfiaaGreatDoor
namespace Go.Fw
open Go
section
variable {P:Program} {Q:Exit→Act→World→Prop} {n:Nat} {f:Fm} {e:Env} {H:ko}
theorem qia {fn:Func} {R:Value→World→Prop} {s T m t:Nat} {b:Nat} {vs:List Value} {u:Value} (hres:fn.results= #[.cell s T,.tmp t]) (hag:∀w,(isAgg T).run P w=.ok true w) (hsz:∀w,(sizeOf T).run P w=.ok m w) (hvm:vs.length=m)
  (hs:look e s=some (.pointer (some ⟨b,0,none⟩))) (ht:look e t=some u) (hb:∀w,Hp f w H→f.ok w→∃U,Blk w b U vs) (h:∀w,Hp f w H→f.ok w→R (.tuple #[.agg vs.toArray,u]) w):
  EJ (bodyPost P fn (Ret R)) .ret n f e H:=fun w hH hf a ha=>by
 refine ⟨ha.defs,_,?_,h w hH hf⟩
 have h2:=ha.has s _ hs
 have h4:=ha.has t _ ht
 obtain ⟨U,hbk⟩:=hb w hH hf
 have h3:=vX (P:=P) (b:=b) w vs 0 hbk.cells
 simp only[results,hres]
 simp[Array.getD_eq_getD_getElem?,h2,h4,asAddr,loadVar,hag,hsz, ← hvm,h3]
end
end Go.Fw
namespace Go.Proofs.YtifdadlhmlhfiaaGreatDoor
open Go Go.Fw Go.Proofs Go.Proofs.Tryz
theorem Yb.pos {g:GFld} {bs:List Nat} (h:Yb g bs):0<bs.length:=by
 cases g with
 |fld f=>
  cases f with
  |num k n=>obtain ⟨t,v,rfl,h1, -⟩:=h;have:=h1.pos;simp;omega
  |bys k B=>obtain ⟨t,v,rfl,h1, -⟩:=h;have:=h1.pos;simp;omega
 |fix8 k B=>obtain ⟨t,rfl,h1, -⟩:=h;have:=h1.pos;simp;omega
 |fix4 k B=>obtain ⟨t,rfl,h1, -⟩:=h;have:=h1.pos;simp;omega
theorem UIn.pos {x:jD} {T:List ByteArray} {m:Msg} (h:UIn x T m):0<(mB m).length:=by
 have h1:=h.z0
 have h2:=h.tab
 have h3:=h.ok.enc
 cases m with
 |nil=>
  have h4:T=[]:=by simpa[kV]using h2.symm
  rw[h4]at h1;cases h1
 |cons a r=>
  have h5:=Yb.pos (h3 a (List.Mem.head _))
  simp only[mB,List.flatMap_cons,lA]
  omega
end Go.Proofs.YtifdadlhmlhfiaaGreatDoor
namespace Go.Fw
open Go
variable {f:Fm} {H:ko} {w:World}
section
variable {P:Program} {Q:Exit→Act→World→Prop} {n:Nat} {f:Fm} {e:Env} {H:ko} {ops:Array Oper} {rest:List Oper} {d ty:Nat} {pos:String} {af:Array Edge}
theorem qfy {t T len sz:Nat} {parts:Array (Nat×Operand)} {vals:List (Nat×Value)} {z:Value} (cells:List Value) (hu:∀w,(underlying t).run P w=.ok (.slice T) w) (hsz:∀w,(sizeOf T).run P w=.ok sz w) (hz:∀w,(zeroValue T).run P w=.ok z w)
  (hp:evP e parts.toList=some vals) (hb:Nat.ble (len*sz) 1000=true) (h0:Nat.blt 0 (len*sz)=true) (hfill:Instr.fill (fun i=>some (i*sz,sz)) ((Array.range (len*sz)).map (z.cells[· %z.cells.size]!)) vals=some cells.toArray) (hd:Nat.blt d n=true)
  (k:∀b,J P ops Q n f ((d,.slice (some ⟨b,0,none⟩) len len)::e) (⟨b,T,cells,true,true,none⟩::H) rest):J P ops Q n f e H (⟨some d,.buildSlice t len parts,ty,pos,af,none⟩::rest):=fun w hH hf=>by
 have hn:New w { w with heap:=w.heap.push (.cells cells.toArray T) } w.heap.size (.cells cells.toArray T (0,0)):=⟨rfl,rfl,rfl,rfl,rfl⟩
 have hb':len*sz≤1000:=Nat.le_of_ble_eq_true hb
 have h0':0<len*sz:=by simpa using h0
 have hr:∀(vals':Array (Nat×Value)),vals'.toList=vals→(Instr.buildSlice t len vals').run P w=.ok (.slice (some ⟨w.heap.size,0,none⟩) len len) { w with heap:=w.heap.push (.cells cells.toArray T) }:=fun vals' hv=>by
  have hgt:¬(2^24<len*sz):=by omega
  have hne:¬(len*sz=0):=by omega
  unfold Instr.buildSlice
  subst hv
  simp only[Sem.run_bind,hu,Result.andThen_ok,hsz,Sem.run_ite,if_neg hgt,if_neg hne,hz,Sem.run_pure,gt_iff_lt]
  rw[hfill]
  rfl
 refine L.valw hd (fun a ha=>?_) (k w.heap.size _ (by simpa using hH.new hf hn) (hf.new hn))
 have hm:(parts.map fun p=>(p.1,a.eval p.2)).toList=vals:=by rw[Array.toList_map];exact qbu ha hp
 simp only[execOp]
 have:=hr _ hm
 simp[this]
end
theorem Hp.catRest:∀{H:ko} {l:List Nat},Hp f w H→(∀x∈H,x.b∈l)→Hp f w (H++vh w l)
 |[],l,_,_=>Hp.rest l
 |x::r,l,h,hl=>⟨h.1,h.2.1,fun he z hz hze=>by
    rcases mA hz with hz|hz
    ·exact h.2.2.1 he z hz hze
    ·exact vZ (hl x (List.Mem.head _)) z hz hze,Hp.catRest h.2.2.2 fun z hz=>hl z (List.mem_cons_of_mem _ hz)⟩
theorem Hp.catB (h:Hp f w H):Hp f w (H++vh w (H.map (·.b))):=Hp.catRest h fun _ hx=>mq hx
theorem Hp.allB (h:Hp f w H) (ho:H.all (fun z=>z.on)=true):∀z∈H,z.on=true∧Blk w z.b z.T z.cs:=fun _ hz=>⟨List.all_eq_true.1 ho _ hz,h.blk hz (List.all_eq_true.1 ho _ hz)⟩
theorem Hp.right:∀{H R:ko},Hp f w (H++R)→Hp f w R
 |[],_,h=>h
 |_::_,_,h=>Hp.right h.2.2.2
theorem qhz {w6 w7:World} (h6:∀x∈H,x.on=true∧Blk w6 x.b x.T x.cs) (h:Hp f w7 (H++vh w6 (H.map (·.b)))):vQ w6 w7:=fun c o hc=>by
 by_cases e:c∈H.map (·.b)
 ·obtain ⟨x,hx,rfl⟩:=List.mem_map.1 e
  obtain ⟨h1,h3⟩:=h6 x hx
  have h4:Blk w7 x.b x.T x.cs:=h.blk (List.mem_append_left _ hx) h1
  have h5:w6.heap[x.b]? =some (.cells x.cs.toArray x.T (0,0)):=h3
  rw[hc]at h5
  cases h5
  exact h4
 ·exact Hp.restKeep h.right c o hc e
end Go.Fw
namespace Go.Proofs.YtifdadlhmlhfiaaGreatDoor
open Go Go.Fw Go.Proofs Go.Proofs.Tryz
set_option maxHeartbeats 2000000 in
theorem qdz (w:World) (cs ds:List Value) (x y:jD) (hX:qI w cs x) (hY:qI w ds y) (hx:vW x) (hy:vW y) (ht:x.types=y.types) (hp:x.per=y.per) (hS:xt (yz y)≤100000000) (hc:y.comments=[]) (hd:y.deflt=eB):
  Calls Tryz.prog 16 #[.agg cs.toArray,.agg ds.toArray] w (Ret fun v w'=>(∃es,v=.tuple #[.agg (List.toArray es),.bool true]∧qI w' es (qy x y))∧Fr 0 [] w w'):=by
 have hPX:=hX
 have hPY:=hY
 have rx:=qI.rng hX
 have ry:=qI.rng hY
 have hJ:=qfw hx hy ht
 have rJ:=qav hx hy rx ry
 obtain ⟨la,ls,lm,ll,lf,lc,rfl,hla,hls,hlm,hll,hlf,hlc, -⟩:=hX
 obtain ⟨ka,ks,km,kl,kf,kc,rfl,hka,hks,hkm,hkl,hkf,hkc, -⟩:=hY
 obtain ⟨pa,cpa,rfl, -⟩:=hla.open
 obtain ⟨ps,cps,rfl, -⟩:=hls.open
 obtain ⟨pm,cpm,rfl, -⟩:=hlm.open
 obtain ⟨pl,cpl,rfl, -⟩:=hll.open
 obtain ⟨pf,cpf,rfl, -⟩:=hlf.open
 obtain ⟨pc,cpc,rfl, -⟩:=hlc.open
 obtain ⟨oa,coa,rfl, -⟩:=hka.open
 obtain ⟨os,cos,rfl, -⟩:=hks.open
 obtain ⟨om,com,rfl, -⟩:=hkm.open
 obtain ⟨ol,col,rfl, -⟩:=hkl.open
 obtain ⟨of,cof,rfl, -⟩:=hkf.open
 obtain ⟨oc,coc,rfl, -⟩:=hkc.open
 refine jr (args:=[_,_]) [(0,.agg (List.toArray [_,_,_,_,_,_,_,_,_,_,_,_,_,_])),(1,.agg (List.toArray [_,_,_,_,_,_,_,_,_,_,_,_,_,_]))] 0 [] [] Tryz.func16 rfl Tryz.ntmps16 rfl rfl .nil ?_
 refine sQ fun K1=>jb (qA (vs:=[_,_,_,_,_,_,_,_,_,_,_,_,_,_]) rfl rfl fun b2=>qA (vs:=[_,_,_,_,_,_,_,_,_,_,_,_,_,_]) rfl rfl fun b3=>jW (zs:=[(.slice none 0 0),(.string ⟨#[]⟩),(.slice none 0 0),(.slice none 0 0),(.slice none 0 0),(.slice none 0 0),(.slice none 0 0),(.string ⟨#[]⟩),(.string ⟨#[]⟩),(.int .i64 0),(.int .i64 0),(.int .i64 0),(.string ⟨#[]⟩),(.string ⟨#[]⟩)]) ZF rfl fun b4=>jA (k:=K1 (sQ fun K2=>jb ?_)))
 refine jp rfl (fun a w ha hH hf=>vo (vs:=[_,_,_,_,_,_,_,_,_,_,_,_,_,_]) 2 rfl rfl Ki yJ rfl rfl rfl ha hH) ?_
 refine kQ (R:=fun w1 v w2=>(∃g,v=ptr g.pb∧OfP w1.heap.size w2 x g∧OfR w1.heap.size w2 x g)∧Fr 0 [] w1 w2) Tryz.call46 rfl rfl (fun w1 hH hf=>qkj w1 _ x (qI.keep (hf.keepAll (.inr rfl)) _ _ hPX) hx) fun w1 v w2 hH1 hf1 hR=>?_
 obtain ⟨⟨g,rfl,hG,hGR⟩,hq2⟩:=hR
 have hfr2:Fr 0 [] w w2:=frQ hf1 hq2
 have hb4:Blk w2 b4 tIP zIP:=hq2.blk (hH1.get (i:=0) rfl rfl) (.inr zp)
 have hlt4:b4<w1.heap.size:=(hH1.get (i:=0) rfl rfl).lt
 have hge4:w.heap.size≤b4:=hH1.fresh (i:=0) rfl rfl rfl
 have hb3:=hq2.blk (hH1.get (i:=1) rfl rfl) (.inr zp)
 refine J.begin ⟨w2,0,[]⟩ [⟨b3,tIP,_,false,true,none⟩] jx (Hp.add trivial hb3 (fun h=>by cases h) zp) ?_
 refine jA (k:=K2 (sQ fun K3=>sQ fun K4=>jb (jM (k:=?_))))
 refine jp rfl (fun a w ha hH hf=>vo (vs:=[_,_,_,_,_,_,_,_,_,_,_,_,_,_]) 0 rfl rfl Ki yJ rfl rfl rfl ha hH) ?_
 refine kQ (R:=fun w3 v w4=>(∃g2,v=ptr g2.pb∧OfP w3.heap.size w4 y g2)∧Fr 0 [] w3 w4) Tryz.call46 rfl rfl (fun w3 hH hf=>of_c w3 _ y (qI.keep (vQ.trans (hfr2.keepAll (.inr rfl)) (hf.keepAll (.inr rfl))) _ _ hPY) hy) fun w3 v w4 hH3 hf3 hR=>?_
 obtain ⟨⟨g2,rfl,hG2⟩,hq4⟩:=hR
 have hfr24:Fr 0 [] w2 w4:=frQ hf3 hq4
 have hb4':Blk w4 b4 tIP zIP:=hfr24.blk hb4 (.inr zp)
 have hs23:w2.heap.size≤w3.heap.size:=hf3.size
 have hs12:w1.heap.size≤w2.heap.size:=hq2.size
 refine J.begin ⟨w4,0,[]⟩ [] jx .nil ?_
 refine kQ (R:=fun w5 v w6=>v=.nilIface∧(∃g',g'.pb=g.pb∧OfQ w1.heap.size w6 (qy x y) g')∧Fr w1.heap.size wJ w5 w6) Tryz.call50 rfl rfl (fun w5 hH hf=>qgZ w1.heap.size w3.heap.size w2 w5 x y g g2 (hG.q fun s hs=>(hx.samples s hs).2.2.2.1) hGR (vQ.trans (hfr24.keepAll (.inr rfl)) (hf.keepAll (.inr rfl))) hs23 hs12 (hG2.keep' hf) hx hy rx ry ht hp hS hc hd) fun w5 v w6 hH5 hf5 hR=>?_
 obtain ⟨rfl,⟨g',hgp,hQ⟩,hf6⟩:=hR
 have hfr6:Fr 0 [] w w6:=Fr.trans (frQ (frQ hfr2 hfr24) hf5) hf6 (.inl hf1.size)
 have hb6:Blk w6 b4 tIP zIP:=hf6.blk (hf5.blk hb4' (.inr zp)) (.inl hlt4)
 rw[← hgp]
 refine J.begin ⟨w6,0,[]⟩ [] jx .nil ?_
 refine jn rfl (fun _ _ h=>xl Jr rfl h) (K4 (CJ.t [(4,_),(6,_),(13,_)] (k:=?_)))
 refine jO rfl (jg (K3 (sQ fun K5=>jb (jM (k:=?_)))))
 refine kQ (R:=fun w5 v w6=>(∃ds,v=.agg (List.toArray ds)∧qiu w6 ds (qy x y))∧Fr 0 [] w5 w6) Tryz.call28 rfl rfl (fun w5 hH hf=>qiK w1.heap.size w5 (qy x y) g' (hQ.fr hf) hJ) fun w7 v w8 hH7 hf7 hR=>?_
 obtain ⟨⟨ds,rfl,hGP⟩,hf8⟩:=hR
 have hfr8:Fr 0 [] w w8:=frQ hfr6 (frQ hf7 hf8)
 have hb8:Blk w8 b4 tIP zIP:=hf8.blk (hf7.blk hb6 (.inr zp)) (.inr zp)
 obtain ⟨vT,vS,vM,vL,vF,vC,sq,rfl,hPV,hsq,hOS,hSM⟩:=id hGP
 obtain ⟨lqX, -,hlcX, -⟩:=hPV.lc
 obtain ⟨pT,lT,cT,rfl, -⟩:=hPV.ty.open
 obtain ⟨pS,lS,cS,rfl, -⟩:=hOS.open
 obtain ⟨pM,lM,cM',rfl, -⟩:=hPV.mp.open
 obtain ⟨pL,lL,cL,rfl, -⟩:=hlcX.open
 obtain ⟨pF,lF,cF,rfl, -⟩:=hPV.fn.open
 obtain ⟨pC,lC,cC,rfl, -⟩:=hPV.co.open
 refine J.begin ⟨w8,w.heap.size,[tIP]⟩ (⟨b4,tIP,zIP,true,true,none⟩::vh w8 [b4]) jx (Hp.one hb8 hge4 rfl) ?_
 refine yt 0 rfl rfl rfl rfl yJ rfl rfl rfl rfl rfl ?_
 refine jA (k:=K5 (jj ?_))
 exact qia Tryz.results16 Ki yJ rfl rfl rfl (fun w' hH hf=>⟨_,hH.get (i:=0) rfl rfl⟩) fun w' hH hf=>⟨⟨_,rfl,qiu.rprof hJ rJ ⟨_,_,_,_,_,_,sq,rfl,hPV.fr hf rfl,hsq,hOS.mono (jk hf rfl),hSM.fr hf rfl⟩⟩,Fr.trans hfr8 hf (.inl (Nat.le_refl _))⟩
theorem qjw {w:World} {b T:Nat} {cs ds:List Value} {x y:jD} (hb:Blk w b T (cs++ds)) (h1:qI w cs x) (h2:qI w ds y):Lay qI 14 w (.slice (some ⟨b,0,none⟩) 2 2) [x,y]:=by
 have l1:cs.length=14:=by obtain ⟨_,_,_,_,_,_,rfl, -⟩:=h1;rfl
 have l2:ds.length=14:=by obtain ⟨_,_,_,_,_,_,rfl, -⟩:=h2;rfl
 refine ⟨[cs,ds],⟨⟨_,_,rfl,Nat.le_refl _,.inr ⟨b,0,rfl,fun j u hj=>?_⟩⟩,by simp[l1,l2],by show 2≤9223372036854775807;decide⟩,rfl,fun c hc=>?_,fun i c z hc hz=>?_⟩
 ·rw[Nat.zero_add,hb.cell]
  simpa using hj
 ·rcases mC hc with rfl|hc
  ·exact l1
  ·obtain rfl:=List.mem_singleton.1 hc
   exact l2
 ·match i,hc,hz with
  |0,hc,hz=>cases hc;cases hz;exact h1
  |1,hc,hz=>cases hc;cases hz;exact h2
set_option maxHeartbeats 2000000 in
theorem qff (w:World) (cs ds:List Value) (x y:jD) (hX:qI w cs x) (hY:qI w ds y) (_:mPf x≤1048576) (hSy:mPf y≤1048576):
  Calls Tryz.prog 6 #[.agg cs.toArray,.agg ds.toArray] w (Ret fun v w'=>v=.bool true∧Fr 0 [] w w'):=by
 have hPX:=hX
 have hPY:=hY
 obtain ⟨la,ls,lm,ll,lf,lc,rfl,hla,hls,hlm,hll,hlf,hlc, -⟩:=hX
 obtain ⟨ka,ks,km,kl,kf,kc,rfl,hka,hks,hkm,hkl,hkf,hkc, -⟩:=hY
 obtain ⟨pa,cpa,rfl, -⟩:=hla.open
 obtain ⟨ps,cps,rfl, -⟩:=hls.open
 obtain ⟨pm,cpm,rfl, -⟩:=hlm.open
 obtain ⟨pl,cpl,rfl, -⟩:=hll.open
 obtain ⟨pf,cpf,rfl, -⟩:=hlf.open
 obtain ⟨pc,cpc,rfl, -⟩:=hlc.open
 obtain ⟨oa,coa,rfl, -⟩:=hka.open
 obtain ⟨os,cos,rfl, -⟩:=hks.open
 obtain ⟨om,com,rfl, -⟩:=hkm.open
 obtain ⟨ol,col,rfl, -⟩:=hkl.open
 obtain ⟨of,cof,rfl, -⟩:=hkf.open
 obtain ⟨oc,coc,rfl, -⟩:=hkc.open
 refine jr (args:=[_,_]) [(0,.agg (List.toArray [_,_,_,_,_,_,_,_,_,_,_,_,_,_])),(1,.agg (List.toArray [_,_,_,_,_,_,_,_,_,_,_,_,_,_]))] 0 [] [] Tryz.func6 rfl Tryz.ntmps6 rfl rfl .nil ?_
 refine sQ fun K1=>jb (qA (vs:=[_,_,_,_,_,_,_,_,_,_,_,_,_,_]) rfl rfl fun b2=>qA (vs:=[_,_,_,_,_,_,_,_,_,_,_,_,_,_]) rfl rfl fun b3=>jA (k:=K1 ?_))
 refine qP fun K2 hK2=>sQ fun K3=>jb (jp rfl (fun a w ha hH hf=>vo (vs:=[_,_,_,_,_,_,_,_,_,_,_,_,_,_]) 1 rfl rfl Ki yJ rfl rfl rfl ha hH) ?_)
 refine kg (φ:=fun v=>∃b,v=.bool b∧(b=true→x.mappings.length≤2147483647∧x.locs.length≤2147483647∧x.funcs.length≤2147483647)) Tryz.call7 rfl rfl (fun w hH hf=>ZW w _ _ (qI.keep (hf.keepAll (.inr rfl)) _ _ hPX)) ?_
 rintro _ ⟨bf,rfl,hbf⟩
 refine jU (k:=jM (k:=?_))
 refine xk (t:=10) rfl (fun hg10=>?_) (fun hg10=>?_)
 ·refine kN rfl rfl rfl rfl (kN rfl rfl rfl rfl (kN rfl rfl rfl rfl (jT (k:=K3 (CJ.t [(2,_),(3,_),(14,_)] (k:=?_))))))
  refine ql rfl (sQ fun K4=>jb (jA (k:=K4 (jj ?_))))
  first
  |exact je Tryz.results6 rfl fun w' hH hf=>⟨rfl,hf⟩
  |exact je Tryz.results6 rfl fun w' hH hf=>⟨rfl,frQ hfr hf⟩
 ·refine jy rfl rfl (jp rfl (fun a w ha hH hf=>vo (vs:=[_,_,_,_,_,_,_,_,_,_,_,_,_,_]) 0 rfl rfl Ki yJ rfl rfl rfl ha hH) (jy rfl rfl ?_))
  first|refine jy rfl rfl ?_|skip
  refine kg (φ:=fun v=>∃b,v=.bool b∧(b=true→y.mappings.length≤2147483647∧y.locs.length≤2147483647∧y.funcs.length≤2147483647)) Tryz.call7 rfl rfl (fun w hH hf=>ZW w _ _ (qI.keep (hf.keepAll (.inr rfl)) _ _ hPY)) ?_
  rintro _ ⟨bg,rfl,hbg⟩
  refine jy rfl rfl (jU (k:=jK (k:=K3 ?_)))
  refine qZ rfl (fun h14=>?_) (fun h14=>?_)
  ·refine sQ fun K5=>jb (jA (k:=K5 (jj ?_)))
   first
   |exact je Tryz.results6 rfl fun w' hH hf=>⟨rfl,hf⟩
   |exact je Tryz.results6 rfl fun w' hH hf=>⟨rfl,frQ hfr hf⟩
  ·have hbx:=hbf (by simpa using hg10)
   have hby:=hbg (by simpa using h14)
   refine jg (ji (hK2 _ _ _ (sQ fun K6=>sQ fun K7=>jb (jp rfl (fun a w ha hH hf=>vo (vs:=[_,_,_,_,_,_,_,_,_,_,_,_,_,_]) 1 rfl rfl Ki yJ rfl rfl rfl ha hH) (jp rfl (fun a w ha hH hf=>vo (vs:=[_,_,_,_,_,_,_,_,_,_,_,_,_,_]) 0 rfl rfl Ki yJ rfl rfl rfl ha hH) ?_)))))
   refine qfy (sz:=14) (vals:=[(0,.agg (List.toArray (cOP x (.slice pa x.types.length cpa) (.slice ps x.samples.length cps) (.slice pm x.mappings.length cpm) (.slice pl x.locs.length cpl) (.slice pf x.funcs.length cpf) (.slice pc x.comments.length cpc) x.per))),(1,.agg (List.toArray (cOP y (.slice oa y.types.length coa) (.slice os y.samples.length cos) (.slice om y.mappings.length com) (.slice ol y.locs.length col) (.slice of y.funcs.length cof) (.slice oc y.comments.length coc) y.per)))]) (cOP x (.slice pa x.types.length cpa) (.slice ps x.samples.length cps) (.slice pm x.mappings.length cpm) (.slice pl x.locs.length cpl) (.slice pf x.funcs.length cpf) (.slice pc x.comments.length cpc) x.per++cOP y (.slice oa y.types.length coa) (.slice os y.samples.length cos) (.slice om y.mappings.length com) (.slice ol y.locs.length col) (.slice of y.funcs.length cof) (.slice oc y.comments.length coc) y.per) qfd yJ ZF rfl rfl rfl (by kernel_rfl) rfl fun b17=>?_
   refine kg (φ:=fun v=>∃b,v=.bool b∧(b=true→qkE [x,y])) Tryz.call15 rfl rfl (fun w' hH hf=>qkK w' _ [x,y] (qjw (hH.get (i:=0) rfl rfl) (qI.keep (hf.keepAll (.inr rfl)) _ _ hPX) (qI.keep (hf.keepAll (.inr rfl)) _ _ hPY)) (fun z hz=>by
     rcases mC hz with rfl|hz
     ·exact hbx
     ·obtain rfl:=List.mem_singleton.1 hz
      exact hby)) ?_
   rintro _ ⟨bt,rfl,hbt⟩
   refine jU (k:=K7 (CJ.t [(2,_),(3,_),(19,_)] (k:=?_)))
   refine qZ rfl (fun h19=>?_) (fun h19=>?_)
   ·refine sQ fun K8=>jb (jA (k:=K8 (jj ?_)))
    first
    |exact je Tryz.results6 rfl fun w' hH hf=>⟨rfl,hf⟩
    |exact je Tryz.results6 rfl fun w' hH hf=>⟨rfl,frQ hfr hf⟩
   ·obtain ⟨hT, -⟩:=hbt (by simpa using h19)
    obtain ⟨hx, -⟩:=hT x zp
    obtain ⟨hy,⟨hc,hd⟩,hTy, -⟩:=hT y zp
    obtain ⟨ht,hp⟩:=hTy x rfl
    have hS:xt (yz y)≤100000000:=by have:=qgv y;omega
    refine jg (K6 (sQ fun K9=>jb (jp rfl (fun a w ha hH hf=>vo (vs:=[_,_,_,_,_,_,_,_,_,_,_,_,_,_]) 2 rfl rfl Ki yJ rfl rfl rfl ha hH) (jp rfl (fun a w ha hH hf=>vo (vs:=[_,_,_,_,_,_,_,_,_,_,_,_,_,_]) 1 rfl rfl Ki yJ rfl rfl rfl ha hH) ?_))))
    refine kQ (R:=fun w1 v w2=>(∃es,v=.tuple #[.agg (List.toArray es),.bool true]∧qI w2 es (qy x y))∧Fr 0 [] w1 w2) Tryz.call16 rfl rfl (fun w1 hH hf=>qdz w1 _ _ x y (qI.keep (hf.keepAll (.inr rfl)) _ _ hPX) (qI.keep (hf.keepAll (.inr rfl)) _ _ hPY) hx hy ht.symm hp.symm hS hc hd) fun w1 v w2 hH1 hf1 hR=>?_
    obtain ⟨⟨es,rfl,hRP⟩,hf2⟩:=hR
    have hfr:Fr 0 [] w w2:=frQ hf1 hf2
    obtain ⟨ja,js,jm,jl,jf,jc,rfl,hja,hjs,hjm,hjl,hjf,hjc, -⟩:=id hRP
    obtain ⟨ra,cra,rfl, -⟩:=hja.open
    obtain ⟨rs,crs,rfl, -⟩:=hjs.open
    obtain ⟨rm,crm,rfl, -⟩:=hjm.open
    obtain ⟨rl,crl,rfl, -⟩:=hjl.open
    obtain ⟨rf,crf,rfl, -⟩:=hjf.open
    obtain ⟨rc,crc,rfl, -⟩:=hjc.open
    have hb2:=hf2.blk (hH1.get (i:=2) rfl rfl) (.inr zp)
    have hb3:=hf2.blk (hH1.get (i:=1) rfl rfl) (.inr zp)
    have hne:b3≠b2:=hH1.2.2.2.2.2.1 rfl _ (List.Mem.head _) rfl|>.symm
    refine J.begin ⟨w2,0,[]⟩ [⟨b3,tIP,_,false,true,none⟩,⟨b2,tIP,_,false,true,none⟩] jx (Hp.add (Hp.add trivial hb2 (fun h=>by cases h) zp) hb3 (fun h=>by cases h) (fun z hz _=>by obtain rfl:=List.mem_singleton.1 hz;exact hne.symm)) ?_
    refine jM (k:=jX (k:=jX (k:=?_)))
    refine jW (zs:=[(.slice none 0 0),(.string ⟨#[]⟩),(.slice none 0 0),(.slice none 0 0),(.slice none 0 0),(.slice none 0 0),(.slice none 0 0),(.string ⟨#[]⟩),(.string ⟨#[]⟩),(.int .i64 0),(.int .i64 0),(.int .i64 0),(.string ⟨#[]⟩),(.string ⟨#[]⟩)]) ZF rfl fun b5=>jB [_,_,_,_,_,_,_,_,_,_,_,_,_,_] [_,_,_] 0 yJ (k:=jA (k:=K9 (sQ fun K10=>?_)))
    refine jC 9 (lts [0,1,2,3,4]++(5,false)::(6,false)::lts [7,8]) [0,1,2] rfl (by kernel_rfl) (by kernel_rfl) (dM [0,1,2] (k:=dM [0,1,2] (k:=?_)))
    refine kK rfl rfl rfl rfl (jd [0,1,2] rfl) (fun a w ha hS=>Ju (vs:=[_,_,_,_,_,_,_,_,_,_,_,_,_,_]) 0 rfl rfl Ki yJ rfl rfl rfl ha hS) (kK rfl rfl rfl rfl (jd [0,1,2] rfl) (fun a w ha hS=>Ju (vs:=[_,_,_,_,_,_,_,_,_,_,_,_,_,_]) 2 rfl rfl Ki yJ rfl rfl rfl ha hS) (kK rfl rfl rfl rfl (jd [0,1,2] rfl) (fun a w ha hS=>Ju (vs:=[_,_,_,_,_,_,_,_,_,_,_,_,_,_]) 1 rfl rfl Ki yJ rfl rfl rfl ha hS) (dE (h:=fun Kd=>jy rfl rfl ?_))))
    refine kQ (R:=fun w5 v w6=>(∃es,v=.agg (List.toArray es)∧qI w6 es (qy x y))∧Fr 0 [] w5 w6) Tryz.call17 rfl rfl (fun w5 hH hf=>qdl w5 x y _ _ (qI.keep (vQ.trans (hfr.keepAll (.inr rfl)) (hf.keepAll (.inr rfl))) _ _ hPX) (qI.keep (vQ.trans (hfr.keepAll (.inr rfl)) (hf.keepAll (.inr rfl))) _ _ hPY) hx hy ht.symm) fun w5 v w6 hH5 hf5 hR=>?_
    obtain ⟨⟨es2,rfl,hRP2⟩,hf6⟩:=hR
    obtain ⟨ia,is,im,il,if_,ic,rfl,hia,his,him,hil,hif,hic, -⟩:=id hRP2
    obtain ⟨ta,cta,rfl, -⟩:=hia.open
    obtain ⟨ts,cts,rfl, -⟩:=his.open
    obtain ⟨tm,ctm,rfl, -⟩:=him.open
    obtain ⟨tl,ctl,rfl, -⟩:=hil.open
    obtain ⟨tf,ctf,rfl, -⟩:=hif.open
    obtain ⟨tc,ctc,rfl, -⟩:=hic.open
    have hH6:=hH5.fr hf6
    have hA6:=hH6.allB rfl
    refine J.begin ⟨w2,0,[]⟩ _ (frQ hf5 hf6) (Hp.catB hH6) ?_
    refine Kd (sb [0,1,2]) (dE (h:=fun Kd=>jy rfl rfl ?_))
    refine kg (φ:=fun v=>v=.bool true) Tryz.call11 rfl rfl (fun w7 hH hf=>qkX w7 _ _ (qy x y) (qI.keep (hf.keepAll (.inr rfl)) _ _ hRP) (qI.keep (qhz hA6 hH) _ _ hRP2)) fun v hv=>?_
    subst hv
    refine Kd (sb [0,1,2]) (jo rfl rfl (jd [0,1,2] rfl) (fun _ _ h=>qD rfl rfl h) (dA [0,1,2] (k:=K10 (CJ.t [(4,_)] (k:=jj ?_)))))
    first
    |exact je Tryz.results6 rfl fun w' hH hf=>⟨rfl,hf⟩
    |exact je Tryz.results6 rfl fun w' hH hf=>⟨rfl,frQ hfr hf⟩
end Go.Proofs.YtifdadlhmlhfiaaGreatDoor
namespace Go.Proofs.YtifdadlhmlhfiaaGreatDoor.fnExactJoin
open Go Go.Fw Go.Proofs Go.Proofs.YtifdadlhmlhfiaaGreatDoor Go.ChangeShapes Go.WideShapes Go.ChangeAt Go.RowKit
theorem own:ownKnob Tryz.prog.godebug=none:=by kernel_rfl
theorem laid:laidOutB Tryz.prog=true:=by kernel_rfl
theorem qkg:Tryz.prog.readableRec 31=true:=by kernel_rfl
theorem qhJ {W W':World} (h:Fr 0 [] W W'):Below W.heap.size W W':=⟨h.os,h.tape,h.output,h.size,fun k hk=>by
 rw[Array.getElem?_eq_getElem hk]
 exact h.keep k _ (Array.getElem?_eq_getElem hk) (.inr zp)⟩
noncomputable def low:Nat:=(World.holding Tryz.prog default ⟨#[], #[],[]⟩).heap.size
noncomputable def XQ (os:Os):World:=
 let w0:=World.holding Tryz.prog os ⟨#[.cells #[.string ⟨#[109,97,108,102,111,114,109,101,100,32,112,114,111,102,105,108,101,32,102,111,114,109,97,116]⟩] 211], #[],[]⟩
 { w0 with heap:=((((w0.heap).modify 1 fun
    | .cells _ t frozen=>.cells #[.iface 209 (.pointer (some ⟨low,0,none⟩))] t frozen
    |o=>o).modify 2 fun
    | .cells _ t frozen=>.cells #[.int .u64 1,.int .u64 10,.int .u64 100,.int .u64 1000,.int .u64 10000,.int .u64 100000,.int .u64 1000000,.int .u64 10000000,.int .u64 100000000,.int .u64 1000000000,.int .u64 10000000000,.int .u64 100000000000,.int .u64 1000000000000,.int .u64 10000000000000,.int .u64 100000000000000,.int .u64 1000000000000000,.int .u64 10000000000000000,.int .u64 100000000000000000,.int .u64 1000000000000000000,.int .u64 10000000000000000000] t frozen
    |o=>o).modify 3 fun
    | .cells _ t frozen=>.cells #[.int .u8 0,.int .u8 1,.int .u8 28,.int .u8 2,.int .u8 29,.int .u8 14,.int .u8 24,.int .u8 3,.int .u8 30,.int .u8 22,.int .u8 20,.int .u8 15,.int .u8 25,.int .u8 17,.int .u8 4,.int .u8 8,.int .u8 31,.int .u8 27,.int .u8 13,.int .u8 23,.int .u8 21,.int .u8 19,.int .u8 16,.int .u8 7,.int .u8 26,.int .u8 12,.int .u8 18,.int .u8 6,.int .u8 11,.int .u8 5,.int .u8 10,.int .u8 9] t frozen
    |o=>o).modify 4 fun
    | .cells _ t frozen=>.cells #[.int .u8 0,.int .u8 1,.int .u8 56,.int .u8 2,.int .u8 57,.int .u8 49,.int .u8 28,.int .u8 3,.int .u8 61,.int .u8 58,.int .u8 42,.int .u8 50,.int .u8 38,.int .u8 29,.int .u8 17,.int .u8 4,.int .u8 62,.int .u8 47,.int .u8 59,.int .u8 36,.int .u8 45,.int .u8 43,.int .u8 51,.int .u8 22,.int .u8 53,.int .u8 39,.int .u8 33,.int .u8 30,.int .u8 24,.int .u8 18,.int .u8 12,.int .u8 5,.int .u8 63,.int .u8 55,.int .u8 48,.int .u8 27,.int .u8 60,.int .u8 41,.int .u8 37,.int .u8 16,.int .u8 46,.int .u8 35,.int .u8 44,.int .u8 21,.int .u8 52,.int .u8 32,.int .u8 23,.int .u8 11,.int .u8 54,.int .u8 26,.int .u8 40,.int .u8 15,.int .u8 34,.int .u8 20,.int .u8 31,.int .u8 10,.int .u8 25,.int .u8 14,.int .u8 19,.int .u8 9,.int .u8 13,.int .u8 8,.int .u8 7,.int .u8 6] t frozen
    |o=>o }
abbrev qjV:Array Value:= #[.agg #[.slice none 0 0,.string ⟨#[]⟩,.slice none 0 0,.slice none 0 0,.slice none 0 0,.slice none 0 0,.slice none 0 0,.string ⟨#[]⟩,.string ⟨#[]⟩,.int .i64 0,.int .i64 0,.int .i64 0,.string ⟨#[]⟩,.string ⟨#[]⟩],.agg #[.slice none 0 0,.string ⟨#[]⟩,.slice none 0 0,.slice none 0 0,.slice none 0 0,.slice none 0 0,.slice none 0 0,.string ⟨#[]⟩,.string ⟨#[]⟩,.int .i64 0,.int .i64 0,.int .i64 0,.string ⟨#[]⟩,.string ⟨#[]⟩]]
theorem qhs (os:Os):laidMet Tryz.prog Rows.fnExactJoinRow.laid ((XQ os).forCall (fun _ _=>0) ⟨#[],qjV,[]⟩).memory:=
 laidMet_of_run' 8 (by kernel_rfl) (by kernel_rfl)
theorem reads (os:Os) {H:Type} (enc:TypeId×Value→H):∃places,DataW.whole enc Tryz.prog ((XQ os).forCall (fun _ _=>0) ⟨#[],qjV,[]⟩).memory Tryz.f6.params.toList Rows.fnExactJoinSpec.vars false qjV.toList 8=some ([.agg [.nil,.lit (.string []),.nil,.nil,.nil,.nil,.nil,.lit (.string []),.lit (.string []),.lit (.int .i64 0),.lit (.int .i64 0),.lit (.int .i64 0),.agg [.lit (.string []),.lit (.string [])]],.agg [.nil,.lit (.string []),.nil,.nil,.nil,.nil,.nil,.lit (.string []),.lit (.string []),.lit (.int .i64 0),.lit (.int .i64 0),.lit (.int .i64 0),.agg [.lit (.string []),.lit (.string [])]]],[.held (enc (209,.pointer (some ⟨low,0,none⟩)))],places):=
 ⟨[.cell 1 0],by kernel_rfl⟩
set_option maxRecDepth 100000 in
theorem qlt (os:Os) (started:os.Started) (H:Type) (enc:TypeId×Value→H) (F:Stop.Interp):
  ReturnsInHanded {} Tryz.checked os 6 .any ((Rows.OpenSpec.upto Rows.fnExactJoinSpec).preRow enc Tryz.prog Tryz.f6 Rows.fnExactJoinUptoRow.domain false Rows.fnExactJoinUptoRow.laid) (((Rows.OpenSpec.upto Rows.fnExactJoinSpec).at F).post enc Tryz.prog Tryz.f6 false true false false):=by
 obtain ⟨places,hx⟩:=reads os enc
 refine returnsInHanded_of_row (C:=Tryz.checked) (s:=Rows.OpenSpec.upto Rows.fnExactJoinSpec) own started (by kernel_rfl) Tryz.func6
  (witness_row_at (enc:=enc) (C:=Tryz.checked) false (XQ os) qjV rfl (by kernel_rfl) (by kernel_rfl) (by kernel_rfl)
   (OpenSpec.preRow_of_cond 8 hx (by kernel_rfl) (fun k hk=>by cases hk;kernel_rfl) (by kernel_rfl) (qhs os))) ?_
 intro W base args ds gs before hval0 hW _ hbk _ hL _ _
 have hval:∀(j:Nat) t v,Tryz.f6.params[j]? =some t→args[j]? =some v→Value.okWide Tryz.prog W .any base t v:=hval0
 have hW':=hW
 obtain ⟨p,q,hA0,hV,rfl,hfz,hnd⟩:=hW
 have hA:DataW.TrodAll enc Tryz.prog W 0 (fun _=>true) true Tryz.f6.params.toList args.toList ds p:=hA0
 rw[Tryz.params6]at hA hval
 obtain ⟨v0,vs0,d0,ds0,p0,q0,hargs,rfl,rfl,h0,r0⟩:=trodAll_cons hA
 obtain ⟨v1,vs1,d1,ds1,p1,q1,rfl,rfl,rfl,h1,r1⟩:=trodAll_cons r0
 obtain ⟨rfl,rfl,rfl⟩:=trodAll_nil r1
 obtain rfl:args= #[v0,v1]:=by cases args;simp_all
 have hV1:DataW.TrodVars enc Tryz.prog W (fun _=>true) Rows.fnExactJoinSpec.vars gs q:=hV
 have hv0:=hval 0 31 v0 rfl rfl
 unfold Value.okWide at hv0
 rw[qkJ]at hv0
 obtain ⟨cs,rfl, -, -⟩:=hv0
 obtain ⟨fuel,h0'⟩:=id h0
 obtain ⟨x,hx,hm⟩:=Za _ _ _ h0'
 have hx:qI W cs.toList x:=hx
 have hv1:=hval 1 31 v1 rfl rfl
 unfold Value.okWide at hv1
 rw[qkJ]at hv1
 obtain ⟨cs1,rfl, -, -⟩:=hv1
 obtain ⟨fuel1,h1'⟩:=id h1
 obtain ⟨y,hy,hm1⟩:=Za _ _ _ h1'
 have hy:qI W cs1.toList y:=hy
 have hS:mPf x≤1048576∧mPf y≤1048576:=by
  have h1:Rows.uptoBulkAll ([d0,d1]++gs)≤1048576:=of_decide_eq_true (hbk _ rfl)
  simp only[List.cons_append,List.nil_append,Rows.uptoBulkAll]at h1
  simp only at hm hm1
  omega
 have hlt:=hW'.lt
 refine (qff W cs.toList cs1.toList x y hx hy hS.1 hS.2).mono fun e W' he=>?_
 obtain ⟨v,rfl,rfl,hk⟩:∃v,e=.returned v∧v=.bool true∧Fr 0 [] W W':=by
  cases e with
  |returned v=>exact ⟨v,rfl,he⟩
  |panicked c=>exact he.elim
  |outgrown=>exact he.elim
 have hb:=qhJ hk
 obtain ⟨g1,rfl⟩:∃g1,gs=[g1]:=by
  obtain ⟨g,t,cs2,fl,d,p,h, -⟩:=trodVars_one hV1
  exact ⟨d,h⟩
 have hlt':∀p∈p0++(p1++[])++q,p.block<W.heap.size:=hlt
 refine ⟨_,rfl,[_,_],[g1],_,[],p0++(p1++[]),q,hW',?_,?_,Below.trodVars laid hb (by kernel_rfl) hV1,qlB hk _,fun h=>by cases h⟩
 ·exact trodAll_cons_mk (shut_bool ud4 _) trodAll_mk0
 ·refine trodAll_cons_mk (Below.trod laid qkg (of_decide_eq_true (by kernel_rfl)) h0 hb fun p hp=>hlt' p (by simp[hp])) (trodAll_cons_mk (Below.trod laid qkg (of_decide_eq_true (by kernel_rfl)) h1 hb fun p hp=>hlt' p (by simp[hp])) trodAll_mk0)
set_option maxHeartbeats 40000000 in
theorem closed:joinedFacts Tryz.pinned.checked.prog 6 Tryz.f6 (Rows.OpenSpec.upto Rows.fnExactJoinSpec).bare Rows.fnExactJoinUptoRow=true:=by
 simp only[joinedFacts,Bool.and_eq_true]
 repeat' apply And.intro
 all_goals (as_aux_lemma=>kernel_rfl)
set_option maxRecDepth 100000 in
theorem saidUpto:Rows.FnExactJoinUptoSaid:=
 OpenClaim.holds_of_cond 6 Tryz.f6 rfl rfl rfl rfl rfl rfl rfl ⟨rfl,rfl,rfl,rfl,rfl⟩ rfl rfl rfl rfl rfl (by kernel_rfl) Tryz.func6 closed
  (of_decide_eq_true (by kernel_rfl)) (by unfold Func.isWrapper;first|(rw[if_pos (by decide+kernel)];kernel_rfl)|(rw[if_neg (by decide+kernel)];exact ⟨rfl,rfl⟩))
  (fun os started H enc _ F=>by rw[OpenClaim.pre_eq_preRow];exact qlt os started H enc F)
theorem plain (f:FuncId) (fn:Func) (hf:Tryz.pinned.checked.prog.funcNamed "loop.example/pub-profileroads/laws.FnExactJoin" =some f) (hfn:Tryz.pinned.checked.prog.funcs[f]? =some fn):
  true=Tryz.pinned.checked.prog.looks []∧∀(j:Nat) t,fn.params[j]? =some t→Tryz.pinned.checked.prog.wantsStandIn t=false:=by
 obtain rfl:f=6:=Option.some.inj ((show Tryz.prog.funcNamed "loop.example/pub-profileroads/laws.FnExactJoin" =some 6 by kernel_rfl).symm.trans hf)|>.symm
 obtain rfl:fn=Tryz.f6:=(Option.some.inj (Tryz.func6.symm.trans hfn)).symm
 refine ⟨by kernel_rfl,fun j t ht=>?_⟩
 rw[Tryz.params6]at ht
 obtain rfl:t=31:=by simpa using Array.mem_of_getElem? ht
 exact (show Tryz.prog.wantsStandIn 31=false by kernel_rfl)
end Go.Proofs.YtifdadlhmlhfiaaGreatDoor.fnExactJoin
namespace Go.Proofs.YtifdadlhmlhfiaaGreatDoor
theorem fnExactJoinUpto_holds:Rows.FnExactJoinUptoCardSaid:=
 Claim7.holds_tied_plain_at .later [] _ _ _ _ fnExactJoin.saidUpto (fun _ h=>by cases h) (by kernel_rfl) (fun _ h=>by cases h) fnExactJoinUpto_row_tie rfl ⟨rfl,rfl⟩ (by kernel_rfl) rfl fnExactJoin.plain (by kernel_rfl)
#print axioms fnExactJoinUpto_holds
end Go.Proofs.YtifdadlhmlhfiaaGreatDoor
