/-
  Part 7 of the proof. Conditions: as each lemma states them.
-/
import Derived.Test.YtffghbkcomlefaaGreatDoorX6
import Derived.Test.YtffghbkcomlefaaGreatDoorCards
import Derived.Test.YtffghbkcomlefaaGreatDoorTie
import Derived.WalkKit
import Derived.ProofKit
import Derived.OpenShut
import Derived.OpenVars
import Derived.Deep.DeepHandedRow
import Derived.Deep.DeepWitnessRowRef
import Derived.Lib.LaidSlice
namespace Go.Proofs.YtffghbkcomlefaaGreatDoor.fnMergeTwice
open Go Go.Fw Go.Proofs Go.Proofs.YtffghbkcomlefaaGreatDoor Go.ChangeShapes Go.WideShapes Go.ChangeAt Go.RowKit Go.Lib
theorem own:ownKnob Tryz.prog.godebug=none:=by kernel_rfl
theorem laid:laidOutB Tryz.prog=true:=by kernel_rfl
theorem readP:Tryz.prog.readableRec 22=true:=by kernel_rfl
noncomputable def low:Nat:=(World.holding Tryz.prog default ⟨#[], #[],[]⟩).heap.size
noncomputable def laidWorld (os:Os):World:=
 let w0:=World.holding Tryz.prog os ⟨#[.cells (intCellsOf .u16 Pinned.isPrint16Z) 260,.cells (intCellsOf .u16 Pinned.isNotPrint16Z) 260,.cells (intCellsOf .u32 Pinned.isPrint32Z) 207,.cells (intCellsOf .u16 Pinned.isNotPrint32Z) 260,.cells (intCellsOf .u16 Pinned.isGraphicZ) 260], #[],[]⟩
 { w0 with heap:=((((((((((w0.heap).modify 0 fun
    | .cells _ t frozen=>.cells #[.int .u64 1,.int .u64 10,.int .u64 100,.int .u64 1000,.int .u64 10000,.int .u64 100000,.int .u64 1000000,.int .u64 10000000,.int .u64 100000000,.int .u64 1000000000,.int .u64 10000000000,.int .u64 100000000000,.int .u64 1000000000000,.int .u64 10000000000000,.int .u64 100000000000000,.int .u64 1000000000000000,.int .u64 10000000000000000,.int .u64 100000000000000000,.int .u64 1000000000000000000,.int .u64 10000000000000000000] t frozen
    |o=>o).modify 1 fun
    | .cells _ t frozen=>.cells (intCellsOf .u8 Pinned.utf8FirstZ) t frozen
    |o=>o).modify 2 fun
    | .cells _ t frozen=>.cells #[.int .u8 128,.int .u8 191,.int .u8 160,.int .u8 191,.int .u8 128,.int .u8 159,.int .u8 144,.int .u8 191,.int .u8 128,.int .u8 143,.int .u8 0,.int .u8 0,.int .u8 0,.int .u8 0,.int .u8 0,.int .u8 0,.int .u8 0,.int .u8 0,.int .u8 0,.int .u8 0,.int .u8 0,.int .u8 0,.int .u8 0,.int .u8 0,.int .u8 0,.int .u8 0,.int .u8 0,.int .u8 0,.int .u8 0,.int .u8 0,.int .u8 0,.int .u8 0] t frozen
    |o=>o).modify 3 fun
    | .cells _ t frozen=>.cells #[.slice (some ⟨low+0,0,none⟩) Pinned.isPrint16Z.length Pinned.isPrint16Z.length] t frozen
    |o=>o).modify 4 fun
    | .cells _ t frozen=>.cells #[.slice (some ⟨low+1,0,none⟩) Pinned.isNotPrint16Z.length Pinned.isNotPrint16Z.length] t frozen
    |o=>o).modify 5 fun
    | .cells _ t frozen=>.cells #[.slice (some ⟨low+2,0,none⟩) Pinned.isPrint32Z.length Pinned.isPrint32Z.length] t frozen
    |o=>o).modify 6 fun
    | .cells _ t frozen=>.cells #[.slice (some ⟨low+3,0,none⟩) Pinned.isNotPrint32Z.length Pinned.isNotPrint32Z.length] t frozen
    |o=>o).modify 7 fun
    | .cells _ t frozen=>.cells #[.slice (some ⟨low+4,0,none⟩) Pinned.isGraphicZ.length Pinned.isGraphicZ.length] t frozen
    |o=>o).modify 9 fun
    | .cells _ t frozen=>.cells #[.int .u8 0,.int .u8 1,.int .u8 28,.int .u8 2,.int .u8 29,.int .u8 14,.int .u8 24,.int .u8 3,.int .u8 30,.int .u8 22,.int .u8 20,.int .u8 15,.int .u8 25,.int .u8 17,.int .u8 4,.int .u8 8,.int .u8 31,.int .u8 27,.int .u8 13,.int .u8 23,.int .u8 21,.int .u8 19,.int .u8 16,.int .u8 7,.int .u8 26,.int .u8 12,.int .u8 18,.int .u8 6,.int .u8 11,.int .u8 5,.int .u8 10,.int .u8 9] t frozen
    |o=>o).modify 10 fun
    | .cells _ t frozen=>.cells #[.int .u8 0,.int .u8 1,.int .u8 56,.int .u8 2,.int .u8 57,.int .u8 49,.int .u8 28,.int .u8 3,.int .u8 61,.int .u8 58,.int .u8 42,.int .u8 50,.int .u8 38,.int .u8 29,.int .u8 17,.int .u8 4,.int .u8 62,.int .u8 47,.int .u8 59,.int .u8 36,.int .u8 45,.int .u8 43,.int .u8 51,.int .u8 22,.int .u8 53,.int .u8 39,.int .u8 33,.int .u8 30,.int .u8 24,.int .u8 18,.int .u8 12,.int .u8 5,.int .u8 63,.int .u8 55,.int .u8 48,.int .u8 27,.int .u8 60,.int .u8 41,.int .u8 37,.int .u8 16,.int .u8 46,.int .u8 35,.int .u8 44,.int .u8 21,.int .u8 52,.int .u8 32,.int .u8 23,.int .u8 11,.int .u8 54,.int .u8 26,.int .u8 40,.int .u8 15,.int .u8 34,.int .u8 20,.int .u8 31,.int .u8 10,.int .u8 25,.int .u8 14,.int .u8 19,.int .u8 9,.int .u8 13,.int .u8 8,.int .u8 7,.int .u8 6] t frozen
    |o=>o }
abbrev arg0:Array Value:= #[.slice none 0 0]
set_option maxRecDepth 1000000 in
theorem piece0 (os:Os):LaidIn Tryz.prog ((laidWorld os).forCall (fun _ _=>0) ⟨#[],arg0,[]⟩).memory (Rows.fnMergeTwiceRow.laid.take 4) [9,10,0,2]:=
 LaidIn.of_run [9,10,0,2] 10 (by kernel_rfl) (by kernel_rfl) (by kernel_rfl) (by kernel_rfl)
set_option maxRecDepth 1000000 in
theorem pieceF (os:Os):LaidIn Tryz.prog ((laidWorld os).forCall (fun _ _=>0) ⟨#[],arg0,[]⟩).memory [("unicode/utf8.first",Pinned.utf8First)] [1]:=
 LaidIn.of_run [1] 10 (by kernel_rfl) (by kernel_rfl) (by kernel_rfl) (by kernel_rfl)
set_option maxRecDepth 1000000 in
theorem piece3 (os:Os):LaidIn Tryz.prog ((laidWorld os).forCall (fun _ _=>0) ⟨#[],arg0,[]⟩).memory [("strconv.isPrint16",sliceData .u16 Pinned.isPrint16Z)] [3,low+0]:=
 laidIn_slice (g:=3) (t:=261) (e:=260) (te:=260) (k:=.u16) Pinned.isPrint16Z (low+0) (by kernel_rfl) (by kernel_rfl) (by kernel_rfl) (by kernel_rfl) (by kernel_rfl) (by kernel_rfl) (by kernel_rfl) (by kernel_rfl) (Nat.le_of_ble_eq_true (by kernel_rfl)) (by
  exact List.nodup_cons.2 ⟨fun h=>Nat.ne_of_beq_eq_false (n:=3) (m:=low+0) (by kernel_rfl) (List.mem_singleton.1 h),List.nodup_cons.2 ⟨by simp,List.nodup_nil⟩⟩)
set_option maxRecDepth 1000000 in
theorem piece4 (os:Os):LaidIn Tryz.prog ((laidWorld os).forCall (fun _ _=>0) ⟨#[],arg0,[]⟩).memory [("strconv.isNotPrint16",sliceData .u16 Pinned.isNotPrint16Z)] [4,low+1]:=
 laidIn_slice (g:=4) (t:=261) (e:=260) (te:=260) (k:=.u16) Pinned.isNotPrint16Z (low+1) (by kernel_rfl) (by kernel_rfl) (by kernel_rfl) (by kernel_rfl) (by kernel_rfl) (by kernel_rfl) (by kernel_rfl) (by kernel_rfl) (Nat.le_of_ble_eq_true (by kernel_rfl)) (by
  exact List.nodup_cons.2 ⟨fun h=>Nat.ne_of_beq_eq_false (n:=4) (m:=low+1) (by kernel_rfl) (List.mem_singleton.1 h),List.nodup_cons.2 ⟨by simp,List.nodup_nil⟩⟩)
set_option maxRecDepth 1000000 in
theorem piece5 (os:Os):LaidIn Tryz.prog ((laidWorld os).forCall (fun _ _=>0) ⟨#[],arg0,[]⟩).memory [("strconv.isPrint32",sliceData .u32 Pinned.isPrint32Z)] [5,low+2]:=
 laidIn_slice (g:=5) (t:=263) (e:=207) (te:=207) (k:=.u32) Pinned.isPrint32Z (low+2) (by kernel_rfl) (by kernel_rfl) (by kernel_rfl) (by kernel_rfl) (by kernel_rfl) (by kernel_rfl) (by kernel_rfl) (by kernel_rfl) (Nat.le_of_ble_eq_true (by kernel_rfl)) (by
  exact List.nodup_cons.2 ⟨fun h=>Nat.ne_of_beq_eq_false (n:=5) (m:=low+2) (by kernel_rfl) (List.mem_singleton.1 h),List.nodup_cons.2 ⟨by simp,List.nodup_nil⟩⟩)
set_option maxRecDepth 1000000 in
theorem piece6 (os:Os):LaidIn Tryz.prog ((laidWorld os).forCall (fun _ _=>0) ⟨#[],arg0,[]⟩).memory [("strconv.isNotPrint32",sliceData .u16 Pinned.isNotPrint32Z)] [6,low+3]:=
 laidIn_slice (g:=6) (t:=261) (e:=260) (te:=260) (k:=.u16) Pinned.isNotPrint32Z (low+3) (by kernel_rfl) (by kernel_rfl) (by kernel_rfl) (by kernel_rfl) (by kernel_rfl) (by kernel_rfl) (by kernel_rfl) (by kernel_rfl) (Nat.le_of_ble_eq_true (by kernel_rfl)) (by
  exact List.nodup_cons.2 ⟨fun h=>Nat.ne_of_beq_eq_false (n:=6) (m:=low+3) (by kernel_rfl) (List.mem_singleton.1 h),List.nodup_cons.2 ⟨by simp,List.nodup_nil⟩⟩)
set_option maxRecDepth 1000000 in
theorem piece7 (os:Os):LaidIn Tryz.prog ((laidWorld os).forCall (fun _ _=>0) ⟨#[],arg0,[]⟩).memory [("strconv.isGraphic",sliceData .u16 Pinned.isGraphicZ)] [7,low+4]:=
 laidIn_slice (g:=7) (t:=261) (e:=260) (te:=260) (k:=.u16) Pinned.isGraphicZ (low+4) (by kernel_rfl) (by kernel_rfl) (by kernel_rfl) (by kernel_rfl) (by kernel_rfl) (by kernel_rfl) (by kernel_rfl) (by kernel_rfl) (Nat.le_of_ble_eq_true (by kernel_rfl)) (by
  exact List.nodup_cons.2 ⟨fun h=>Nat.ne_of_beq_eq_false (n:=7) (m:=low+4) (by kernel_rfl) (List.mem_singleton.1 h),List.nodup_cons.2 ⟨by simp,List.nodup_nil⟩⟩)
theorem laid_met (os:Os):laidMet Tryz.prog Rows.fnMergeTwiceRow.laid ((laidWorld os).forCall (fun _ _=>0) ⟨#[],arg0,[]⟩).memory:=
 ((piece0 os).append ((piece7 os).append ((piece4 os).append ((piece6 os).append ((piece3 os).append ((piece5 os).append (pieceF os) (by kernel_rfl)) (by kernel_rfl)) (by kernel_rfl)) (by kernel_rfl)) (by kernel_rfl)) (by kernel_rfl)).met
theorem reads (os:Os) {H:Type} (enc:TypeId×Value→H):∃places,DataW.whole enc Tryz.prog ((laidWorld os).forCall (fun _ _=>0) ⟨#[],arg0,[]⟩).memory Tryz.f3.params.toList Rows.fnMergeTwiceSpec.vars false arg0.toList 8=some ([.nil],[],places):=
 ⟨[],by kernel_rfl⟩
set_option maxRecDepth 100000 in
theorem lifted (os:Os) (started:os.Started) (H:Type) (enc:TypeId×Value→H) (F:Stop.Interp):
  ReturnsInHanded {} Tryz.checked os 3 .any ((Rows.OpenSpec.upto Rows.fnMergeTwiceSpec).preRow enc Tryz.prog Tryz.f3 Rows.fnMergeTwiceUptoRow.domain false Rows.fnMergeTwiceUptoRow.laid) (((Rows.OpenSpec.upto Rows.fnMergeTwiceSpec).at F).post enc Tryz.prog Tryz.f3 false true false false):=by
 obtain ⟨places,hx⟩:=reads os enc
 refine returnsInHanded_of_row (C:=Tryz.checked) (s:=Rows.OpenSpec.upto Rows.fnMergeTwiceSpec) own started (by kernel_rfl) Tryz.func3
  (witness_row_atRef (enc:=enc) (C:=Tryz.checked) false (laidWorld os) arg0 rfl (by kernel_rfl) (by kernel_rfl) (by kernel_rfl)
   (OpenSpec.preRow_of_cond 8 hx (by kernel_rfl) (fun k hk=>by cases hk;kernel_rfl) (by kernel_rfl) (laid_met os))) ?_
 intro W base args ds gs before hval0 hW _ hbk _ hL _ _
 have hval:∀(j:Nat) t v,Tryz.f3.params[j]? =some t→args[j]? =some v→Value.okWide Tryz.prog W .any base t v:=hval0
 have hW':=hW
 obtain ⟨p,q,hA0,hV,rfl,hfz,hnd⟩:=hW
 have hA:DataW.TrodAll enc Tryz.prog W 0 (fun _=>true) true Tryz.f3.params.toList args.toList ds p:=hA0
 rw[Tryz.params3]at hA hval
 obtain ⟨v0,vs0,d0,ds0,p0,q0,hargs,rfl,rfl,h0,r0⟩:=trodAll_cons hA
 obtain ⟨rfl,rfl,rfl⟩:=trodAll_nil r0
 obtain rfl:args= #[v0]:=by cases args;simp_all
 obtain ⟨rfl,rfl⟩:=trodVars_none hV
 obtain ⟨a1,l1,c1,rfl⟩:=okWide_slice ud22 (hval 0 22 v0 rfl rfl)
 obtain ⟨fuel,h0'⟩:=id h0
 obtain ⟨xs,⟨_,e1,hx⟩,hm⟩:=rd_slice ud22 (show Tryz.prog.cellsOf 33=14 by kernel_rfl) (by decide) rd_Profile _ _ _ h0'
 obtain rfl:=(List.cons.inj e1).1
 have hB:∀x∈xs,TxB x:=fun x hxm=>by
  have h1:Rows.uptoBulkAll ([d0]++([]:List (DataW H)))≤1048576:=of_decide_eq_true (hbk _ rfl)
  simp only[List.append_nil,Rows.uptoBulkAll]at h1
  have h2:=le_sum mPf hxm
  replace hm:(xs.map mPf).sum≤Rows.uptoBulk d0:=hm
  exact txB_of (by omega)
 have hlt:=hW'.lt
 refine (root_merge W _ xs hx hB (tabs_of hL)).mono fun e W' he=>?_
 obtain ⟨v,rfl,rfl,hk⟩:∃v,e=.returned v∧v=.bool true∧Fr 0 [] W W':=by
  cases e with
  |returned v=>exact ⟨v,rfl,he⟩
  |panicked c=>exact he.elim
  |outgrown=>exact he.elim
 have hs:∀p∈p0++[]++[],W.sameAt W' p:=fun p hp=>sameOf hk (hlt p hp)
 refine ⟨_,rfl,[_],[],_,[],p0++[],[],hW',?_,?_,rfl,keptOf hk _,fun h=>by cases h⟩
 ·exact trodAll_cons_mk (shut_bool ud4 _) trodAll_mk0
 ·refine trodAll_cons_mk (WideElems.Trod_stays laid readP (of_decide_eq_true (by kernel_rfl)) h0 (fun p hp=>hs p (by simp[hp])) fun p hp=>?_) trodAll_mk0
  simpa using hlt p (by simp[hp])
end Go.Proofs.YtffghbkcomlefaaGreatDoor.fnMergeTwice
