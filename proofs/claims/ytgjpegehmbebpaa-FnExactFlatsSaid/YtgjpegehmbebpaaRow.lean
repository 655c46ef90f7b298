/-
  For every profile and every place of a type: the law FnExactFlats returns true, and the arguments read as they did. Conditions: none.
-/
import Derived.Test.YtgjpegehmbebpaaRows
import Derived.Test.YtgjpegehmbebpaaSm
import Derived.Test.YtgjpegehmbebpaaRd
import Derived.Handed
import Derived.OpenShut
import Derived.ProofKit
namespace Go.Proofs.Ytgjpegehmbebpaa.ExactFlats
open Go Go.Fw Go.Proofs Go.Proofs.Ytgjpegehmbebpaa Go.ChangeShapes Go.WideShapes Go.ChangeAt Go.RowKit
theorem own : ownKnob Try.prog.godebug = none := by kernel_rfl
theorem laid : laidOutB Try.prog = true := by kernel_rfl
theorem readP : Try.prog.readableRec 31 = true := by kernel_rfl
theorem readI : Try.prog.readableRec 3 = true := by kernel_rfl
set_option maxRecDepth 100000 in
theorem lifted (os : Os) (started : os.Started) (H : Type) (enc : TypeId × Value → H) :
    ReturnsInHanded {} Try.checked os 3 .any (Rows.fnExactFlatsSpec.pre6 enc Try.prog Try.f3 Rows.fnExactFlatsRow.domain false) (Rows.fnExactFlatsSpec.post enc Try.prog Try.f3 false true false false) := by
  refine returnsInHanded_of_change (C := Try.checked) own started (by kernel_rfl) Try.func3
    (ChangeSpec.witness6 (enc := enc) (C := Try.checked) false ⟨#[], #[.agg #[.slice none 0 0, .string ⟨#[]⟩, .slice none 0 0, .slice none 0 0, .slice none 0 0, .slice none 0 0, .slice none 0 0, .string ⟨#[]⟩, .string ⟨#[]⟩, .int .i64 0, .int .i64 0, .int .i64 0, .string ⟨#[]⟩, .string ⟨#[]⟩], .int .i64 0], []⟩ 8 (by kernel_rfl) (by kernel_rfl) (by kernel_rfl) (by kernel_rfl)) ?_
  intro W base args ds gs before hval0 hW hcnd _
  have hval : ∀ (j : Nat) t v, Try.f3.params[j]? = some t → args[j]? = some v → Value.okWide Try.prog W .any base t v := hval0
  have hW' := hW
  obtain ⟨p, q, hA0, hV, rfl, hfz, hnd⟩ := hW
  have hA : DataW.TrodAll enc Try.prog W 0 (fun _ => true) true Try.f3.params.toList args.toList ds p := hA0
  rw [Try.params3] at hA hval
  obtain ⟨v0, vs0, d0, ds0, p0, q0, hargs, rfl, rfl, h0, r0⟩ := trodAll_cons hA
  obtain ⟨v1, vs1, d1, ds1, p1, q1, rfl, rfl, rfl, h1, r1⟩ := trodAll_cons r0
  obtain ⟨rfl, rfl, rfl⟩ := trodAll_nil r1
  obtain rfl : args = #[v0, v1] := by cases args; simp_all
  obtain ⟨rfl, rfl⟩ := trodVars_none hV
  obtain ⟨kv, rfl, rfl, rfl, wk⟩ := open_int Try.underlying3 (hval 1 3 v1 rfl rfl) h1
  have hv0 := hval 0 31 v0 rfl rfl
  unfold Value.okWide at hv0
  rw [Try.underlying31] at hv0
  obtain ⟨cs, rfl, -, -⟩ := hv0
  obtain ⟨fuel, h0'⟩ := id h0
  obtain ⟨x, hx⟩ := rd_Profile _ _ _ h0'
  have hx : RProf W cs.toList x := hx
  have hlt := hW'.lt
  refine (root_c W cs.toList x kv hx).mono fun e W' he => ?_
  obtain ⟨v, rfl, rfl, hk⟩ : ∃ v, e = .returned v ∧ v = .bool true ∧ Fr 0 [] W W' := by
    cases e with
    | returned v => exact ⟨v, rfl, he⟩
    | panicked c => exact he.elim
    | outgrown => exact he.elim
  have hs : ∀ p ∈ p0 ++ ([] ++ []) ++ [], W.sameAt W' p := fun p hp => sameOf hk (hlt p hp)
  refine ⟨_, rfl, [_, _], [], _, [], p0 ++ ([] ++ []), [], hW', ?_, ?_, rfl, keptOf hk _, fun h => by cases h⟩
  · exact trodAll_cons_mk (shut_bool Try.underlying4 _) trodAll_mk0
  · refine trodAll_cons_mk (WideElems.Trod_stays laid readP (of_decide_eq_true (by kernel_rfl)) h0 (fun p hp => hs p (by simp [hp])) fun p hp => ?_) (trodAll_cons_mk (shut_int Try.underlying3 wk) trodAll_mk0)
    simpa using hlt p (by simp [hp])
theorem over : Rows.fnExactFlatsRow.holds Try.pinned (OpenSpec.ofChange Rows.fnExactFlatsSpec) :=
  OpenClaim.holds_of_wide 3 Try.f3 rfl rfl rfl rfl rfl rfl rfl ⟨rfl, rfl, rfl, rfl, rfl⟩ rfl rfl rfl rfl rfl (by kernel_rfl) Try.func3 (by kernel_rfl)
    (of_decide_eq_true (by kernel_rfl)) (by unfold Func.isWrapper; first | (rw [if_pos (by decide +kernel)]; kernel_rfl) | (rw [if_neg (by decide +kernel)]; exact ⟨rfl, rfl⟩))
    (fun os started H enc _ => lifted os started H enc)
end Go.Proofs.Ytgjpegehmbebpaa.ExactFlats
namespace Go.Proofs.Ytgjpegehmbebpaa
theorem exactFlats_holds : Rows.FnExactFlatsSaid := ExactFlats.over
#print axioms exactFlats_holds
end Go.Proofs.Ytgjpegehmbebpaa
