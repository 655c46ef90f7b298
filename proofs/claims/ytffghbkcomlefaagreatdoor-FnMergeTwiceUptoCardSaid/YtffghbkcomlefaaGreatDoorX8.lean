/-
  For every list of profiles whose reading is of bulk at most 1048576: the law FnMergeTwice returns true, and the argument reads as it did; and its card. Conditions: none.
-/
import Derived.Test.YtffghbkcomlefaaGreatDoorX7
namespace Go.Proofs.YtffghbkcomlefaaGreatDoor.fnMergeTwice
open Go Go.Fw Go.Proofs Go.Proofs.YtffghbkcomlefaaGreatDoor Go.ChangeShapes Go.WideShapes Go.ChangeAt Go.RowKit
set_option maxHeartbeats 40000000 in
theorem closed:joinedFacts Tryz.pinned.checked.prog 3 Tryz.f3 (Rows.OpenSpec.upto Rows.fnMergeTwiceSpec).bare Rows.fnMergeTwiceUptoRow=true:=by
 simp only[joinedFacts,Bool.and_eq_true]
 repeat' apply And.intro
 all_goals (as_aux_lemma=>kernel_rfl)
set_option maxRecDepth 100000 in
theorem saidUpto:Rows.FnMergeTwiceUptoSaid:=
 OpenClaim.holds_of_cond 3 Tryz.f3 rfl rfl rfl rfl rfl rfl rfl ⟨rfl,rfl,rfl,rfl,rfl⟩ rfl rfl rfl rfl rfl (by kernel_rfl) Tryz.func3 closed
  (of_decide_eq_true (by kernel_rfl)) (by unfold Func.isWrapper;first|(rw[if_pos (by decide+kernel)];kernel_rfl)|(rw[if_neg (by decide+kernel)];exact ⟨rfl,rfl⟩))
  (fun os started H enc _ F=>by rw[OpenClaim.pre_eq_preRow];exact lifted os started H enc F)
theorem plain (f:FuncId) (fn:Func) (hf:Tryz.pinned.checked.prog.funcNamed "loop.example/pub-profileroads/laws.FnMergeTwice" =some f) (hfn:Tryz.pinned.checked.prog.funcs[f]? =some fn):
  false=Tryz.pinned.checked.prog.looks []∧∀(j:Nat) t,fn.params[j]? =some t→Tryz.pinned.checked.prog.wantsStandIn t=false:=by
 obtain rfl:f=3:=Option.some.inj ((show Tryz.prog.funcNamed "loop.example/pub-profileroads/laws.FnMergeTwice" =some 3 by kernel_rfl).symm.trans hf)|>.symm
 obtain rfl:fn=Tryz.f3:=(Option.some.inj (Tryz.func3.symm.trans hfn)).symm
 refine ⟨by kernel_rfl,fun j t ht=>?_⟩
 rw[Tryz.params3]at ht
 obtain rfl:t=22:=by simpa using Array.mem_of_getElem? ht
 exact (show Tryz.prog.wantsStandIn 22=false by kernel_rfl)
end Go.Proofs.YtffghbkcomlefaaGreatDoor.fnMergeTwice
namespace Go.Proofs.YtffghbkcomlefaaGreatDoor
theorem fnMergeTwiceUpto_holds:Rows.FnMergeTwiceUptoCardSaid:=
 Claim7.holds_tied_plain_at .later [] _ _ _ _ fnMergeTwice.saidUpto (fun _ h=>by cases h) (by kernel_rfl) (fun _ h=>by cases h) fnMergeTwiceUpto_row_tie rfl ⟨rfl,rfl⟩ (by kernel_rfl) rfl fnMergeTwice.plain (by kernel_rfl)
#print axioms fnMergeTwiceUpto_holds
end Go.Proofs.YtffghbkcomlefaaGreatDoor
