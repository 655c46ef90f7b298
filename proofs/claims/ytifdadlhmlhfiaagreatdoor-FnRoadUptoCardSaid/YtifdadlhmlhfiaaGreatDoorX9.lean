/-
  For every profile whose reading is of bulk at most 1048576: the law FnRoad returns true, and the argument and the variables that its row names read as they did; and its card. Conditions: none.
-/
import Derived.Test.YtifdadlhmlhfiaaGreatDoorX8
namespace Go.Proofs.YtifdadlhmlhfiaaGreatDoor.fnRoad
open Go Go.Fw Go.Proofs Go.Proofs.YtifdadlhmlhfiaaGreatDoor Go.ChangeShapes Go.WideShapes Go.ChangeAt Go.RowKit
set_option maxHeartbeats 40000000 in
theorem closed:joinedFacts Tryz.pinned.checked.prog 5 Tryz.f5 (Rows.OpenSpec.upto Rows.fnRoadSpec).bare Rows.fnRoadUptoRow=true:=by
 simp only[joinedFacts,Bool.and_eq_true]
 repeat' apply And.intro
 all_goals (as_aux_lemma=>kernel_rfl)
set_option maxRecDepth 100000 in
theorem saidUpto:Rows.FnRoadUptoSaid:=
 OpenClaim.holds_of_cond 5 Tryz.f5 rfl rfl rfl rfl rfl rfl rfl ⟨rfl,rfl,rfl,rfl,rfl⟩ rfl rfl rfl rfl rfl (by kernel_rfl) Tryz.func5 closed
  (of_decide_eq_true (by kernel_rfl)) (by unfold Func.isWrapper;first|(rw[if_pos (by decide+kernel)];kernel_rfl)|(rw[if_neg (by decide+kernel)];exact ⟨rfl,rfl⟩))
  (fun os started H enc _ F=>by rw[OpenClaim.pre_eq_preRow];exact lifted os started H enc F)
theorem plain (f:FuncId) (fn:Func) (hf:Tryz.pinned.checked.prog.funcNamed "loop.example/pub-profileroads/laws.FnRoad" =some f) (hfn:Tryz.pinned.checked.prog.funcs[f]? =some fn):
  true=Tryz.pinned.checked.prog.looks []∧∀(j:Nat) t,fn.params[j]? =some t→Tryz.pinned.checked.prog.wantsStandIn t=false:=by
 obtain rfl:f=5:=Option.some.inj ((show Tryz.prog.funcNamed "loop.example/pub-profileroads/laws.FnRoad" =some 5 by kernel_rfl).symm.trans hf)|>.symm
 obtain rfl:fn=Tryz.f5:=(Option.some.inj (Tryz.func5.symm.trans hfn)).symm
 refine ⟨by kernel_rfl,fun j t ht=>?_⟩
 rw[Tryz.params5]at ht
 obtain rfl:t=31:=by simpa using Array.mem_of_getElem? ht
 exact (show Tryz.prog.wantsStandIn 31=false by kernel_rfl)
end Go.Proofs.YtifdadlhmlhfiaaGreatDoor.fnRoad
namespace Go.Proofs.YtifdadlhmlhfiaaGreatDoor
theorem fnRoadUpto_holds:Rows.FnRoadUptoCardSaid:=
 Claim7.holds_tied_plain_at .later [] _ _ _ _ fnRoad.saidUpto (fun _ h=>by cases h) (by kernel_rfl) (fun _ h=>by cases h) fnRoadUpto_row_tie rfl ⟨rfl,rfl⟩ (by kernel_rfl) rfl fnRoad.plain (by kernel_rfl)
#print axioms fnRoadUpto_holds
end Go.Proofs.YtifdadlhmlhfiaaGreatDoor
