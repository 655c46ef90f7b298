/-
  The entry that a range over a map stands at. Conditions: as the lemma states them.
-/
import Derived.Test.YtifnhinopjgfaaaGreatFwL
namespace Go.Fw
open Go
theorem born_eq {es : List MapEntry} (hb : (es.map (·.born)).Nodup) {x y : MapEntry} (hx : x ∈ es) (hy : y ∈ es) (h : x.born = y.born) : x = y := by
 induction es with
 | nil => cases hx
 | cons a r ih =>
  simp only [List.map_cons, List.nodup_cons] at hb
  rcases List.mem_cons.1 hx with hxa | hx
  ·rcases List.mem_cons.1 hy with hya | hy
   ·rw [hxa, hya]
   ·exact absurd (List.mem_map.2 ⟨y, hy, by rw [← h, hxa]⟩) hb.1
  ·rcases List.mem_cons.1 hy with hya | hy
   ·exact absurd (List.mem_map.2 ⟨x, hx, by rw [h, hya]⟩) hb.1
   ·exact ih hb.2 hx hy
section
variable {P : Program} {n : Nat} {f : Fm} {e : Env} {H : Heap} {d ty : Nat} {pos : String} {af : Array Edge}
theorem r_entry {x : Operand} {it b since ck : Nat} {seen : List Nat} {es : List MapEntry} {xe : MapEntry} (i j : Nat) (hi : H[i]? = some (itE it b since (seen ++ [xe.born]) ck)) (hy : H[j]? = some (mpE b es ck)) (hx : ev e x = some (.pointer (some ⟨it, 0, none⟩)))
  (hxe : xe ∈ es) (hnd : (es.map (·.born)).Nodup) {a : Act} {w : World} (ha : Sat n e a) (hH : Hp f w H) :
  (execOp a.eval ⟨some d, .entry x, ty, pos, af, none⟩).run P w = .ok (.value (.tuple #[xe.key, xe.val])) w := by
 have h1 := hH.obj hi rfl
 have h2 := hH.obj hy rfl
 have h3 : es.find? (fun z => z.born == xe.born) = some xe := by
  cases hf : es.find? (fun z => z.born == xe.born) with
  | none => exact absurd (List.find?_eq_none.1 hf xe hxe) (by simp)
  | some z =>
   have hz := List.find?_some hf
   have hm := List.mem_of_find?_eq_some hf
   rw [born_eq hnd hm hxe (by simpa using hz)]
 simp only [execOp, ha.ev hx]
 have h2' : (getObj b).run P w = .ok (.map es.toArray ck) w := run_getObj h2 rfl
 simp only [Instr.entry, Sem.run_bind, run_getObj h1 rfl, Result.andThen_ok]
 simp [h2', h3]
end

section
variable {P : Program} {Q : Exit → Act → World → Prop} {n : Nat} {f : Fm} {e : Env} {H : Heap} {ops : Array Oper} {rest : List Oper} {d ty : Nat} {pos : String} {af : Array Edge}
/-- a call of a function value -/
theorem j_callV {g : FuncId} {x : Operand} {args : Array Operand} {vs us : List Value} {tys : Array TypeId} {R : World → Value → World → Prop} (hg : ∀ (as : Array Value) (w : World), (callFunc g as).run P w = .ok (.enter g as) w)
  (hx : ev e x = some (.func (.func g) #[] us.toArray)) (hargs : evL e args.toList = some vs) (hd : Nat.blt d n = true) (hc : ∀ w, Hp f w H → f.ok w → Calls P g (vs ++ us).toArray w (Ret (R w)))
  (k : ∀ w v w', Hp f w H → f.ok w → R w v w' → L P ops Q n ((d, v) :: e) rest w') : J P ops Q n f e H (⟨some d, .call ⟨.value x, args, tys⟩, ty, pos, af, none⟩ :: rest) := fun w hH hf a ha => by
 have hmap : args.map a.eval = vs.toArray := by apply Array.toList_inj.1; rw [Array.toList_map]; exact evL_ok ha hargs
 unfold wpList
 rw [if_pos (by simp [Region.wanted])]
 refine .inl ?_
 have hrun : (execOp a.eval ⟨some d, .call ⟨.value x, args, tys⟩, ty, pos, af, none⟩).run P w = .ok (.enter g (vs ++ us).toArray) w := by
  simp only [execOp, resolve, hmap, ha.ev hx, Deferred.ofValue]
  simp [invoke, hg]
 unfold Oper.wp
 rw [hrun]
 refine Calls.mono (hc w hH hf) fun e w' he => ?_
 cases e with
 | returned v => exact k w v w' hH hf he _ (ha.put hd)
 | panicked c => exact he.elim
 | outgrown => exact he.elim
end

theorem MEnc.nil' {κ : Type} {enc : κ → Value} {ck : Nat} : MEnc enc [] [] ck := ⟨rfl, by simp, by simp, by simp⟩
section
variable {P : Program} {Q : Exit → Act → World → Prop} {n : Nat} {f : Fm} {e : Env} {H : Heap} {ops : Array Oper} {rest : List Oper} {d ty : Nat} {pos : String} {af : Array Edge}
end
end Go.Fw
