/-
  Part 8 of the proof. Conditions: as each lemma states them.
-/
import Derived.Test.YtifdadlhmlhfiaaGreatDoorX7
import Derived.Test.YtifdadlhmlhfiaaGreatDoorCards
import Derived.Test.YtifdadlhmlhfiaaGreatDoorTie
import Derived.WalkKit
import Derived.ProofKit
import Derived.OpenShut
import Derived.OpenVars
import Derived.Deep.DeepHandedRow
import Derived.Lib.LaidTab
namespace Go.Proofs.YtifdadlhmlhfiaaGreatDoor.fnRoad
open Go Go.Fw Go.Proofs Go.Proofs.YtifdadlhmlhfiaaGreatDoor Go.ChangeShapes Go.WideShapes Go.ChangeAt Go.RowKit
theorem own:ownKnob Tryz.prog.godebug=none:=by kernel_rfl
theorem laid:laidOutB Tryz.prog=true:=by kernel_rfl
theorem readP:Tryz.prog.readableRec 31=true:=by kernel_rfl
theorem fr_below {W W':World} (h:Fr 0 [] W W'):Below W.heap.size W W':=⟨h.os,h.tape,h.output,h.size,fun k hk=>by
 rw[Array.getElem?_eq_getElem hk]
 exact h.keep k _ (Array.getElem?_eq_getElem hk) (.inr (by simp))⟩
noncomputable def low:Nat:=(World.holding Tryz.prog default ⟨#[], #[],[]⟩).heap.size
noncomputable def laidWorld (os:Os):World:=
 let w0:=World.holding Tryz.prog os ⟨#[.cells #[.string ⟨#[109,97,108,102,111,114,109,101,100,32,112,114,111,102,105,108,101,32,102,111,114,109,97,116]⟩] 211,.cells #[.string ⟨#[101,109,112,116,121,32,105,110,112,117,116,32,102,105,108,101]⟩] 211], #[],[]⟩
 { w0 with heap:=(((((w0.heap).modify 0 fun
    | .cells _ t frozen=>.cells #[.iface 209 (.pointer (some ⟨low+1,0,none⟩))] t frozen
    |o=>o).modify 1 fun
    | .cells _ t frozen=>.cells #[.iface 209 (.pointer (some ⟨low,0,none⟩))] t frozen
    |o=>o).modify 2 fun
    | .cells _ t frozen=>.cells #[.int .u64 1,.int .u64 10,.int .u64 100,.int .u64 1000,.int .u64 10000,.int .u64 100000,.int .u64 1000000,.int .u64 10000000,.int .u64 100000000,.int .u64 1000000000,.int .u64 10000000000,.int .u64 100000000000,.int .u64 1000000000000,.int .u64 10000000000000,.int .u64 100000000000000,.int .u64 1000000000000000,.int .u64 10000000000000000,.int .u64 100000000000000000,.int .u64 1000000000000000000,.int .u64 10000000000000000000] t frozen
    |o=>o).modify 3 fun
    | .cells _ t frozen=>.cells #[.int .u8 0,.int .u8 1,.int .u8 28,.int .u8 2,.int .u8 29,.int .u8 14,.int .u8 24,.int .u8 3,.int .u8 30,.int .u8 22,.int .u8 20,.int .u8 15,.int .u8 25,.int .u8 17,.int .u8 4,.int .u8 8,.int .u8 31,.int .u8 27,.int .u8 13,.int .u8 23,.int .u8 21,.int .u8 19,.int .u8 16,.int .u8 7,.int .u8 26,.int .u8 12,.int .u8 18,.int .u8 6,.int .u8 11,.int .u8 5,.int .u8 10,.int .u8 9] t frozen
    |o=>o).modify 4 fun
    | .cells _ t frozen=>.cells #[.int .u8 0,.int .u8 1,.int .u8 56,.int .u8 2,.int .u8 57,.int .u8 49,.int .u8 28,.int .u8 3,.int .u8 61,.int .u8 58,.int .u8 42,.int .u8 50,.int .u8 38,.int .u8 29,.int .u8 17,.int .u8 4,.int .u8 62,.int .u8 47,.int .u8 59,.int .u8 36,.int .u8 45,.int .u8 43,.int .u8 51,.int .u8 22,.int .u8 53,.int .u8 39,.int .u8 33,.int .u8 30,.int .u8 24,.int .u8 18,.int .u8 12,.int .u8 5,.int .u8 63,.int .u8 55,.int .u8 48,.int .u8 27,.int .u8 60,.int .u8 41,.int .u8 37,.int .u8 16,.int .u8 46,.int .u8 35,.int .u8 44,.int .u8 21,.int .u8 52,.int .u8 32,.int .u8 23,.int .u8 11,.int .u8 54,.int .u8 26,.int .u8 40,.int .u8 15,.int .u8 34,.int .u8 20,.int .u8 31,.int .u8 10,.int .u8 25,.int .u8 14,.int .u8 19,.int .u8 9,.int .u8 13,.int .u8 8,.int .u8 7,.int .u8 6] t frozen
    |o=>o }
abbrev arg0:Array Value:= #[.agg #[.slice none 0 0,.string ⟨#[]⟩,.slice none 0 0,.slice none 0 0,.slice none 0 0,.slice none 0 0,.slice none 0 0,.string ⟨#[]⟩,.string ⟨#[]⟩,.int .i64 0,.int .i64 0,.int .i64 0,.string ⟨#[]⟩,.string ⟨#[]⟩]]
theorem laid_met (os:Os):laidMet Tryz.prog Rows.fnRoadRow.laid ((laidWorld os).forCall (fun _ _=>0) ⟨#[],arg0,[]⟩).memory:=
 laidMet_of_run' 8 (by kernel_rfl) (by kernel_rfl)
theorem reads (os:Os) {H:Type} (enc:TypeId×Value→H):∃places,DataW.whole enc Tryz.prog ((laidWorld os).forCall (fun _ _=>0) ⟨#[],arg0,[]⟩).memory Tryz.f5.params.toList Rows.fnRoadSpec.vars false arg0.toList 8=some ([.agg [.nil,.lit (.string []),.nil,.nil,.nil,.nil,.nil,.lit (.string []),.lit (.string []),.lit (.int .i64 0),.lit (.int .i64 0),.lit (.int .i64 0),.agg [.lit (.string []),.lit (.string [])]]],[.held (enc (209,.pointer (some ⟨low+1,0,none⟩))),.held (enc (209,.pointer (some ⟨low,0,none⟩)))],places):=
 ⟨[.cell 0 0,.cell 1 0],by kernel_rfl⟩
set_option maxRecDepth 100000 in
theorem lifted (os:Os) (started:os.Started) (H:Type) (enc:TypeId×Value→H) (F:Stop.Interp):
  ReturnsInHanded {} Tryz.checked os 5 .any ((Rows.OpenSpec.upto Rows.fnRoadSpec).preRow enc Tryz.prog Tryz.f5 Rows.fnRoadUptoRow.domain false Rows.fnRoadUptoRow.laid) (((Rows.OpenSpec.upto Rows.fnRoadSpec).at F).post enc Tryz.prog Tryz.f5 false true false false):=by
 obtain ⟨places,hx⟩:=reads os enc
 refine returnsInHanded_of_row (C:=Tryz.checked) (s:=Rows.OpenSpec.upto Rows.fnRoadSpec) own started (by kernel_rfl) Tryz.func5
  (witness_row_at (enc:=enc) (C:=Tryz.checked) false (laidWorld os) arg0 rfl (by kernel_rfl) (by kernel_rfl) (by kernel_rfl)
   (OpenSpec.preRow_of_cond 8 hx (by kernel_rfl) (fun k hk=>by cases hk;kernel_rfl) (by kernel_rfl) (laid_met os))) ?_
 intro W base args ds gs before hval0 hW _ hbk _ hL _ _
 have hval:∀(j:Nat) t v,Tryz.f5.params[j]? =some t→args[j]? =some v→Value.okWide Tryz.prog W .any base t v:=hval0
 have hW':=hW
 obtain ⟨p,q,hA0,hV,rfl,hfz,hnd⟩:=hW
 have hA:DataW.TrodAll enc Tryz.prog W 0 (fun _=>true) true Tryz.f5.params.toList args.toList ds p:=hA0
 rw[Tryz.params5]at hA hval
 obtain ⟨v0,vs0,d0,ds0,p0,q0,hargs,rfl,rfl,h0,r0⟩:=trodAll_cons hA
 obtain ⟨rfl,rfl,rfl⟩:=trodAll_nil r0
 obtain rfl:args= #[v0]:=by cases args;simp_all
 have hV1:DataW.TrodVars enc Tryz.prog W (fun _=>true) Rows.fnRoadSpec.vars gs q:=hV
 have hv0:=hval 0 31 v0 rfl rfl
 unfold Value.okWide at hv0
 rw[Tryz.underlying31]at hv0
 obtain ⟨cs,rfl, -, -⟩:=hv0
 obtain ⟨fuel,h0'⟩:=id h0
 obtain ⟨x,hx,hm⟩:=rd_Profile _ _ _ h0'
 have hx:RProf W cs.toList x:=hx
 have hS:sumS (allS x)≤100000000:=by
  have h1:Rows.uptoBulkAll ([d0]++gs)≤1048576:=of_decide_eq_true (hbk _ rfl)
  simp only[List.cons_append,List.nil_append,Rows.uptoBulkAll]at h1
  have h2:=sumS_all x
  simp only at hm
  omega
 have hlt:=hW'.lt
 refine (root_road W cs.toList x hx hS).mono fun e W' he=>?_
 obtain ⟨v,rfl,rfl,hk⟩:∃v,e=.returned v∧v=.bool true∧Fr 0 [] W W':=by
  cases e with
  |returned v=>exact ⟨v,rfl,he⟩
  |panicked c=>exact he.elim
  |outgrown=>exact he.elim
 have hb:=fr_below hk
 obtain ⟨g1,g2,rfl⟩:∃g1 g2,gs=[g1,g2]:=by
  obtain ⟨_,_,_,_,d0,_,_,_,_,_,d1,_,h, -⟩:=trodVars_two hV1
  exact ⟨d0,d1,h⟩
 have hlt':∀p∈p0++[]++q,p.block<W.heap.size:=hlt
 refine ⟨_,rfl,[_],[g1,g2],_,[],p0++[],q,hW',?_,?_,Below.trodVars laid hb (by kernel_rfl) hV1,keptOf hk _,fun h=>by cases h⟩
 ·exact trodAll_cons_mk (shut_bool Tryz.underlying4 _) trodAll_mk0
 ·refine trodAll_cons_mk (Below.trod laid readP (of_decide_eq_true (by kernel_rfl)) h0 hb fun p hp=>hlt' p (by simp[hp])) trodAll_mk0
end Go.Proofs.YtifdadlhmlhfiaaGreatDoor.fnRoad
