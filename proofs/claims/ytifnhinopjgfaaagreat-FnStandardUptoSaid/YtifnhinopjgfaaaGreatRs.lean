/-
  For every profile whose reading is of bulk at most 1048576: the law FnStandard returns true, and the argument reads as it did. Conditions: none.
-/
import Derived.Test.YtifnhinopjgfaaaGreatRows
import Derived.Test.YtifnhinopjgfaaaGreatRt
import Derived.Handed
import Derived.OpenShut
import Derived.ProofKit
import Derived.JoinedCond
namespace Go.Proofs.YtifnhinopjgfaaaGreat.Standard
open Go Go.Fw Go.Proofs Go.Proofs.YtifnhinopjgfaaaGreat Go.ChangeShapes Go.WideShapes Go.ChangeAt Go.RowKit
theorem own : ownKnob Tryz.prog.godebug = none := by kernel_rfl
theorem laid : laidOutB Tryz.prog = true := by kernel_rfl
theorem readP : Tryz.prog.readableRec 31 = true := by kernel_rfl
set_option maxRecDepth 100000 in
theorem lifted (os : Os) (started : os.Started) (H : Type) (enc : TypeId × Value → H) (F : Stop.Interp) :
  ReturnsInHanded {} Tryz.checked os 3 .any ((Rows.OpenSpec.upto Rows.fnStandardSpec).pre6 enc Tryz.prog Tryz.f3 Rows.fnStandardUptoRow.domain false) (((Rows.OpenSpec.upto Rows.fnStandardSpec).at F).post enc Tryz.prog Tryz.f3 false true false false) := by
 refine returnsInHanded_of_cond (C := Tryz.checked) (s := Rows.OpenSpec.upto Rows.fnStandardSpec) (k := Rows.uptoSmall) rfl own started (by kernel_rfl) Tryz.func3
  (OpenSpec.witness (enc := enc) (C := Tryz.checked) (s := Rows.OpenSpec.upto Rows.fnStandardSpec) (k := Rows.uptoSmall) rfl false ⟨#[], #[.agg #[.slice none 0 0, .string ⟨#[]⟩, .slice none 0 0, .slice none 0 0, .slice none 0 0, .slice none 0 0, .slice none 0 0, .string ⟨#[]⟩, .string ⟨#[]⟩, .int .i64 0, .int .i64 0, .int .i64 0, .string ⟨#[]⟩, .string ⟨#[]⟩]], []⟩ 8 (by kernel_rfl) (by kernel_rfl) (by kernel_rfl)
   (x := ([.agg [.nil, .lit (.string []), .nil, .nil, .nil, .nil, .nil, .lit (.string []), .lit (.string []), .lit (.int .i64 0), .lit (.int .i64 0), .lit (.int .i64 0), .agg [.lit (.string []), .lit (.string [])]]], [], [])) (by kernel_rfl) rfl (by kernel_rfl)) ?_
 intro W base args ds gs before hval0 hW _ hbk _
 have hval : ∀ (j : Nat) t v, Tryz.f3.params[j]? = some t → args[j]? = some v → Value.okWide Tryz.prog W .any base t v := hval0
 have hW' := hW
 obtain ⟨p, q, hA0, hV, rfl, hfz, hnd⟩ := hW
 have hA : DataW.TrodAll enc Tryz.prog W 0 (fun _ => true) true Tryz.f3.params.toList args.toList ds p := hA0
 rw [Tryz.params3] at hA hval
 obtain ⟨v0, vs0, d0, ds0, p0, q0, hargs, rfl, rfl, h0, r0⟩ := trodAll_cons hA
 obtain ⟨rfl, rfl, rfl⟩ := trodAll_nil r0
 obtain rfl : args = #[v0] := by cases args; simp_all
 obtain ⟨rfl, rfl⟩ := trodVars_none hV
 have hv0 := hval 0 31 v0 rfl rfl
 unfold Value.okWide at hv0
 rw [Tryz.underlying31] at hv0
 obtain ⟨cs, rfl, -, -⟩ := hv0
 obtain ⟨fuel, h0'⟩ := id h0
 obtain ⟨x, hx, hm⟩ := rd_Profile _ _ _ h0'
 have hx : RProf W cs.toList x := hx
 have hS : sumS (allS x) ≤ 100000000 := by
  have h1 : Rows.uptoBulkAll ([d0] ++ ([] : List (DataW H))) ≤ 1048576 := of_decide_eq_true hbk
  simp only [List.append_nil, Rows.uptoBulkAll] at h1
  have h2 := sumS_all x
  simp only at hm
  omega
 have hlt := hW'.lt
 refine (root_c W cs.toList x hx hS).mono fun e W' he => ?_
 obtain ⟨v, rfl, rfl, hk⟩ : ∃ v, e = .returned v ∧ v = .bool true ∧ Fr 0 [] W W' := by
  cases e with
  | returned v => exact ⟨v, rfl, he⟩
  | panicked c => exact he.elim
  | outgrown => exact he.elim
 have hs : ∀ p ∈ p0 ++ [] ++ [], W.sameAt W' p := fun p hp => sameOf hk (hlt p hp)
 refine ⟨_, rfl, [_], [], _, [], p0 ++ [], [], hW', ?_, ?_, rfl, keptOf hk _, fun h => by cases h⟩
 ·exact trodAll_cons_mk (shut_bool Tryz.underlying4 _) trodAll_mk0
 ·refine trodAll_cons_mk (WideElems.Trod_stays laid readP (of_decide_eq_true (by kernel_rfl)) h0 (fun p hp => hs p (by simp [hp])) fun p hp => ?_) trodAll_mk0
  simpa using hlt p (by simp [hp])
theorem over : Rows.fnStandardUptoRow.holds Tryz.pinned (Rows.OpenSpec.upto Rows.fnStandardSpec) :=
 OpenClaim.holds_of_cond 3 Tryz.f3 rfl rfl rfl rfl rfl rfl rfl ⟨rfl, rfl, rfl, rfl, rfl⟩ rfl rfl rfl rfl rfl (by kernel_rfl) Tryz.func3 (by kernel_rfl)
  (of_decide_eq_true (by kernel_rfl)) (by unfold Func.isWrapper; first | (rw [if_pos (by decide +kernel)]; kernel_rfl) | (rw [if_neg (by decide +kernel)]; exact ⟨rfl, rfl⟩))
  (fun os started H enc _ F => lifted os started H enc F)
end Go.Proofs.YtifnhinopjgfaaaGreat.Standard
namespace Go.Proofs.YtifnhinopjgfaaaGreat
theorem standardUpto_holds : Rows.FnStandardUptoSaid := Standard.over
#print axioms standardUpto_holds
end Go.Proofs.YtifnhinopjgfaaaGreat
