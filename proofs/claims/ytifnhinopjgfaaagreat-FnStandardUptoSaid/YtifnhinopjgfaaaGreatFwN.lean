/-
  More of the layer: cells from a stretch on, calls that make slices, facts that stay while a drawn region's head runs, numbers that fit. Conditions: as each lemma states them.
-/
import Derived.Test.YtifnhinopjgfaaaGreatFwM
namespace Go.Fw
open Go
/-- cells of a block that a stretch leaves as it is -/
theorem mc {f : Fm} {b T : Nat} {cs : List Value} (hb : Blk f.ws b T cs) (hT : f.W.all (fun t => !Nat.beq t T) = true) : ∀ w', f.ok w' → ∀ (j : Nat) (u : Value), cs[j]? = some u → w'.cell? ⟨b, 0 + j, none⟩ = some u := fun w' hf j u hj => by
 have h := hf.keep b _ hb (.inr (not_mem_of_all (T := T) hT))
 have h : Blk w' b T cs := h
 rw [h.cell, Nat.zero_add]; exact hj
/-- cells of an owned slice, from a stretch on that leaves its kind as it is -/
theorem OS.openF {T sz : Nat} {w : World} {v : Value} {xs : List Value} (h : OS T sz w v xs) : ∃ p l c, v = .slice p l c ∧ xs.length = l * sz ∧ l ≤ c ∧ (0 < l → ∃ b, p = some ⟨b, 0, none⟩ ∧ ∀ f : Fm, f.ws = w → f.W.all (fun t => !Nat.beq t T) = true → ∀ w', f.ok w' → ∀ (j : Nat) (u : Value), xs[j]? = some u → w'.cell? ⟨b, j, none⟩ = some u) := by
 obtain ⟨y, p, l, c, h1, h2, h3⟩ := h
 refine ⟨p, l, c, h1, h2.sl.1, h2.sl.2.1, fun hl => ?_⟩
 obtain ⟨-, -, h4⟩ := h2.sl
 rcases h4 with ⟨h5, h6, ⟨ex, h7⟩, -⟩ | ⟨h5, h6, h7⟩
 ·refine ⟨y.b, h6, fun f hf hT w' k j u hj => ?_⟩
  have hb := h3 h5
  subst hf
  have hk := k.keep y.b _ hb (.inr (not_mem_of_all (T := T) hT))
  have hk : Blk w' y.b T y.cs := hk
  rw [hk.cell, h7, List.getElem?_append_left (List.getElem?_eq_some_iff.1 hj).1]
  exact hj
 ·have := h2.sl.2.1; omega
theorem Hp.freshX {w0 w : World} {B : Nat} {H : Heap} (h : Hp ⟨w0, B, []⟩ w H) {i : Nat} {x : Ent} (hx : H[i]? = some x) (he : x.ex = true) (hw : x.wr = true) : w0.heap.size ≤ x.b := by
 rcases h.mayx (List.mem_of_getElem? hx) he hw with h | ⟨-, h⟩
 ·exact h
 ·cases h
theorem KeepX.keep' {w0 w1 w2 : World} {l : List Nat} (h : Keep w0 w1) (k : KeepX l w1 w2) (hl : ∀ b ∈ l, w0.heap.size ≤ b) : Keep w0 w2 := fun b o hb => k.keep b o (h b o hb) fun hm => by
 have h1 := hl b hm
 have h2 : b < w0.heap.size := (Array.getElem?_eq_some_iff.1 hb).1
 omega
theorem Keep.blk {w w' : World} (k : Keep w w') {b T : Nat} {cs : List Value} (h : Blk w b T cs) : Blk w' b T cs := k _ _ h
theorem Fr.keepB {W : List Nat} {w0 w w' : World} {B : Nat} (k : Keep w0 w) (h : Fr B W w w') (hW : W = []) : Keep w0 w' := k.trans (h.keepAll (.inr hW))
section
variable {P : Program} {Q : Exit → Act → World → Prop} {n : Nat} {f : Fm} {e : Env} {H : Heap} {ops : Array Oper} {rest : List Oper} {d ty : Nat} {pos : String} {af : Array Edge}
end
theorem wrap64_small {z : Int} (h1 : -4611686018427387904 ≤ z) (h2 : z < 4611686018427387904) : IntKind.i64.wrap z = z := by
 simp [IntKind.wrap, IntKind.bits, IntKind.signed]; omega
theorem N.sub' {K : Act → World → Prop} {n : Nat} {e e' : Env} {w : World} (h : N K n e' w) (hs : Sub e e') : N K n e w := fun a ha => h a (ha.sub hs)
section
variable {P : Program} {Q : Exit → Act → World → Prop} {n : Nat} {f : Fm} {e : Env} {H : Heap} {ops : Array Oper} {rest : List Oper} {d ty : Nat} {pos : String} {af : Array Edge}
/-- a call of a function value that only makes new memory, none of which is asked for -/
theorem j_callVQ {g : FuncId} {x : Operand} {args : Array Operand} {vs us : List Value} {tys : Array TypeId} {φ : Value → Prop} (hg : ∀ (az : Array Value) (w : World), (callFunc g az).run P w = .ok (.enter g az) w)
  (hx : ev e x = some (.func (.func g) #[] us.toArray)) (hargs : evL e args.toList = some vs) (hd : Nat.blt d n = true) (hc : ∀ w, Hp f w H → f.ok w → Calls P g (vs ++ us).toArray w (Ret fun v w' => φ v ∧ Fr 0 [] w w'))
  (k : ∀ v, φ v → J P ops Q n f ((d, v) :: e) H rest) : J P ops Q n f e H (⟨some d, .call ⟨.value x, args, tys⟩, ty, pos, af, none⟩ :: rest) :=
 j_callV hg hx hargs hd hc fun w v w' hH hf hR => k v hR.1 w' (hH.fr hR.2) (hf.fr hR.2)
end
section
variable {P : Program} {Q : Exit → Act → World → Prop} {n : Nat} {f : Fm} {e : Env} {H : Heap} {ops : Array Oper} {rest : List Oper} {d ty : Nat} {pos : String} {af : Array Edge}
variable {κ : Type} [DecidableEq κ] {enc : κ → Value} {ok : World → κ → Prop} {ms : List (κ × Value)} {es : List MapEntry} {ck kt vt mt b : Nat}
end
/-! #### a drawn region with a fact of the world that stays while its head runs -/
section
variable {P : Program} {Q : Exit → Act → World → Prop} {n : Nat} {f : Fm} {e : Env} {H : Heap} {ops : Array Oper} {nt : Nat} {HS : Heap} {r : Sched} {d ty : Nat} {pos : String} {af : Array Edge} {T : World → Prop}
end
theorem fr_row {W : List Nat} {B : Nat} {w w' : World} (h : Fr B W w w') {T : Nat} (hT : W.all (fun t => !Nat.beq t T) = true) : ∀ b cs, Blk w b T cs → Blk w' b T cs := fun b cs hb => h.blk hb (.inr (not_mem_of_all hT))
theorem flatMap_get {α : Type} {c : α → List Value} {sz : Nat} (hc : ∀ a, (c a).length = sz) : ∀ {xs : List α} {j : Nat} {a : α}, xs[j]? = some a → ∀ (i : Nat) u, (c a)[i]? = some u → (xs.flatMap c)[j * sz + i]? = some u
 | [], _, _, h, _, _, _ => by simp at h
 | x :: r, 0, a, h, i, u, hu => by
  simp at h; subst h
  have := (List.getElem?_eq_some_iff.1 hu).1
  rw [List.flatMap_cons, List.getElem?_append_left (by omega)]
  simpa using hu
 | x :: r, j + 1, a, h, i, u, hu => by
  simp at h
  rw [List.flatMap_cons, List.getElem?_append_right (by rw [hc, Nat.succ_mul]; omega), hc, show (j + 1) * sz + i - sz = j * sz + i by rw [Nat.succ_mul]; omega]
  exact flatMap_get hc h i u hu
theorem flatMap_len {α : Type} {c : α → List Value} {sz : Nat} (hc : ∀ a, (c a).length = sz) : ∀ (xs : List α), (xs.flatMap c).length = xs.length * sz
 | [] => by simp
 | x :: r => by rw [List.flatMap_cons, List.length_append, hc, flatMap_len hc r, List.length_cons, Nat.succ_mul]; omega
end Go.Fw
