/-
  What is asked of memory while a profile is made ready to be written. Conditions: as each lemma states them.
-/
import Derived.Test.YtifnhinopjgfaaaGreatTb
namespace Go.Fw
open Go
/-- a map that is only read, or none -/
def MapAt (w : World) (mo : Option Nat) (es : List MapEntry) (ck : Nat) : Prop := (mo = none ∧ es = [] ∧ ck = 0) ∨ ∃ b, mo = some b ∧ w.heap[b]? = some (.map es.toArray ck)
theorem MapAt.keep {w w' : World} {mo : Option Nat} {es : List MapEntry} {ck : Nat} (h : MapAt w mo es ck) (k : ∀ (b : Nat) es ck, w.heap[b]? = some (.map es ck) → w'.heap[b]? = some (.map es ck)) : MapAt w' mo es ck := by
 rcases h with h | ⟨b, h1, h2⟩
 ·exact .inl h
 ·exact .inr ⟨b, h1, k _ _ _ h2⟩
abbrev itM (it : Nat) (mo : Option Nat) (since : Nat) (seen : List Nat) (stepped : Nat) : Ent := ⟨it, 0, [], true, false, some (.mapIter mo since seen.toArray stepped)⟩
theorem okK {f : Fm} {w w' : World} {b T : Nat} (hf : f.ok w) (k : KeepX [b] w w') (hm : f.may b T) (ho : ∀ o : Obj, w.heap[b]? = some o → tagOf o = T) : f.ok w' :=
 ⟨k.os.trans hf.os, k.tape.trans hf.tape, k.output.trans hf.output, Nat.le_trans hf.size k.size, fun c o hc hk => by
  have h1 := hf.keep c o hc hk
  refine k.keep c o h1 fun hm2 => ?_
  simp at hm2
  subst hm2
  have h2 := ho o h1
  have h3 := (Array.getElem?_eq_some_iff.1 hc).1
  rcases hm with hm | ⟨hm, hm'⟩
  ·omega
  ·rcases hk with hk | hk
   ·omega
   ·exact hk (h2 ▸ hm')⟩
section
variable {P : Program} {Q : Exit → Act → World → Prop} {n : Nat} {f : Fm} {e : Env} {H : Heap} {ops : Array Oper} {rest : List Oper} {d ty : Nat} {pos : String} {af : Array Edge}
variable {mt kt vt ck : Nat} {mo : Option Nat} {es : List MapEntry}
theorem j_rangeM {m : Operand} (hu : ∀ w, (underlying mt).run P w = .ok (.map kt vt) w) (hM : ∀ w, Hp f w H → f.ok w → MapAt w mo es ck) (hm : ev e m = some (.map mo)) (hd : Nat.blt d n = true)
  (k : ∀ it, J P ops Q n f ((d, .pointer (some ⟨it, 0, none⟩)) :: e) (itM it mo ck [] ck :: H) rest) : J P ops Q n f e H (⟨some d, .range mt m, ty, pos, af, none⟩ :: rest) := fun w hH hf => by
 have hn : New w { w with heap := w.heap.push (.mapIter mo ck #[] ck) } w.heap.size (.mapIter mo ck #[] ck) := ⟨rfl, rfl, rfl, rfl, rfl⟩
 refine L.valw hd (fun a ha => ?_) (k w.heap.size _ (hH.newO hf hn) (hf.new hn))
 simp only [execOp, ha.ev hm]
 rcases hM w hH hf with ⟨rfl, rfl, rfl⟩ | ⟨b, rfl, hb⟩
 ·have h1 : (Instr.range mt (.map none)).run P w = .ok (.pointer (some ⟨w.heap.size, 0, none⟩)) { w with heap := w.heap.push (.mapIter none 0 #[] 0) } := by
   simp only [Instr.range]
   simp only [Sem.run_bind, hu, Result.andThen_ok, Sem.run_pure]
   rfl
  simp [h1]
 ·have h1 := run_range (P := P) hu hb
  simp [h1]
theorem j_nextM {x : Operand} {it since stepped : Nat} {seen : List Nat} (i : Nat) (hi : H[i]? = some (itM it mo since seen stepped)) (hM : ∀ w, Hp f w H → f.ok w → MapAt w mo es ck) (hlt : ∀ x ∈ es, x.born < since) (hst : since ≤ stepped) (hx : ev e x = some (.pointer (some ⟨it, 0, none⟩))) (hd : Nat.blt d n = true)
  (k1 : (∀ x ∈ es, x.born ∈ seen) → J P ops Q n f ((d, .tuple #[.bool false]) :: e) H rest)
  (k2 : ∀ x ∈ es, x.born ∉ seen → J P ops Q n f ((d, .tuple #[.bool true, x.key, x.val]) :: e) (putH H i (itM it mo since (seen ++ [x.born]) ck)) rest) : J P ops Q n f e H (⟨some d, .next x false, ty, pos, af, none⟩ :: rest) := fun w hH hf => by
 rcases hM w hH hf with ⟨rfl, rfl, rfl⟩ | ⟨b, rfl, hb⟩
 ·refine L.valw hd (fun a ha => ?_) (k1 (by simp) w hH hf)
  simp only [execOp, ha.ev hx]
  have h1 : (Instr.next (.pointer (some ⟨it, 0, none⟩)) false ty).run P w = .ok (.tuple #[.bool false]) w := by
   simp only [Instr.next]
   simp only [Sem.run_bind, run_getObj (hH.obj hi rfl) rfl, Result.andThen_ok, Sem.run_pure]
  simp [h1]
 ·rcases run_next (P := P) (rt := ty) (hH.obj hi rfl) hb hlt hst with ⟨w', h1, h2, h3, h4, h5, h6⟩ | ⟨w', x, h1, h2, h3, h4⟩
  ·have hD : Dr w w' := ⟨h3, h4, h5, h2⟩
   refine L.valw hd (fun a ha => ?_) (k1 h6 w' (hH.dr hD) (Fr.dr hf hD))
   simp only [execOp, ha.ev hx]
   simp [h1]
  ·obtain ⟨h5, h6⟩ := hH.putO hi rfl h2 rfl hf
   refine L.valw hd (fun a ha => ?_) (k2 x h3 h4 w' h5 h6)
   simp only [execOp, ha.ev hx]
   simp [h1]
theorem r_entryM {x : Operand} {it since : Nat} {seen : List Nat} {xe : MapEntry} (i : Nat) (hi : H[i]? = some (itM it mo since (seen ++ [xe.born]) ck)) (hM : ∀ w, Hp f w H → f.ok w → MapAt w mo es ck) (hx : ev e x = some (.pointer (some ⟨it, 0, none⟩)))
  (hxe : xe ∈ es) (hnd : (es.map (·.born)).Nodup) {a : Act} {w : World} (ha : Sat n e a) (hH : Hp f w H) (hf : f.ok w) :
  (execOp a.eval ⟨some d, .entry x, ty, pos, af, none⟩).run P w = .ok (.value (.tuple #[xe.key, xe.val])) w := by
 rcases hM w hH hf with ⟨-, rfl, -⟩ | ⟨b, rfl, hb⟩
 ·cases hxe
 have h1 := hH.obj hi rfl
 have h3 : es.find? (fun z => z.born == xe.born) = some xe := by
  cases hf : es.find? (fun z => z.born == xe.born) with
  | none => exact absurd (List.find?_eq_none.1 hf xe hxe) (by simp)
  | some z =>
   have hz := List.find?_some hf
   have hm := List.mem_of_find?_eq_some hf
   rw [born_eq hnd hm hxe (by simpa using hz)]
 simp only [execOp, ha.ev hx]
 have h2' : (getObj b).run P w = .ok (.map es.toArray ck) w := run_getObj hb rfl
 simp only [Instr.entry, Sem.run_bind, run_getObj h1 rfl, Result.andThen_ok]
 simp [h2', h3]
theorem r_mlookM {κ : Type} [DecidableEq κ] {enc : κ → Value} {ms : List (κ × Value)} {m kx : Operand} {k : κ} {z : Value} (hu : ∀ w, (underlying mt).run P w = .ok (.map kt vt) w) (hk : KeyT P kt enc (fun _ _ => True)) (hM : MEnc enc ms es ck) (hz : ∀ w, (zeroValue vt).run P w = .ok z w)
  (hm : ev e m = some (.map mo)) (hkx : ev e kx = some (enc k)) {a : Act} {w : World} (ha : Sat n e a) (hA : MapAt w mo es ck) :
  (execOp a.eval ⟨some d, .lookup mt m kx false, ty, pos, af, none⟩).run P w = .ok (.value ((mget ms k).getD z)) w := by
 simp only [execOp, ha.ev hm, ha.ev hkx]
 rcases hA with ⟨rfl, rfl, -⟩ | ⟨b, rfl, hb⟩
 ·have hnil : ms = [] := by have := hM.kv; simpa using this.symm
  subst hnil
  have := run_lookup_nil (P := P) (w := w) hu hk (k := k) trivial hz false
  simp [this, mget_nil]
 ·have := run_lookup (P := P) hu hk hM hb (fun _ _ => trivial) (k := k) trivial hz false
  simp [this]
theorem Hp.putX {f : Fm} {w w' : World} {H : Heap} {i : Nat} {y y' : Ent} (h : Hp f w H) (hx : H[i]? = some y) (ho : y.ex = true) (hb : y'.b = y.b) (hm : y'.ex = true → y'.wr = true → f.may y'.b y'.tag) (k : KeepX [y.b] w w') (hh : y'.has w') : Hp f w' (putH H i y') :=
 h.putK hx ho hb hm (fun z _ _ hne o hz => k.keep _ o hz (by simpa using hne)) hh
end
end Go.Fw
namespace Go.Proofs.YtifnhinopjgfaaaGreat
open Go Go.Fw Go.Proofs Go.Proofs.Tryz
section
variable {Q : Exit → Act → World → Prop} {n : Nat} {f : Fm} {e : Env} {H : Heap} {ops : Array Oper} {rest : List Oper} {d ty : Nat} {pos : String} {af : Array Edge}
/-- a text is put into the table -/
theorem j_callA1 {mb ck : Nat} {es : List MapEntry} {S T : List ByteArray} {s : ByteArray} {args : Array Operand} {tys : Array TypeId} (i : Nat) (hi : H[i]? = some (mpE mb es ck)) (hM : MEnc Value.string (tabM T) es ck) (hT : ∀ s ∈ T, s ∈ S) (hs : s ∈ S) (hS : S.length ≤ 100000000000)
  (hargs : evL e args.toList = some [.map (some mb), .string s]) (hd : Nat.blt d n = true)
  (k : ∀ (T' : List ByteArray) (m : Nat) es' ck', T'[m]? = some s → T <+: T' → (∀ s ∈ T', s ∈ S) → MEnc Value.string (tabM T') es' ck' → (T' = T ∨ T' = T ++ [s]) → J Tryz.prog ops Q n f ((d, .int .i64 (m : Nat)) :: e) (putH H i (mpE mb es' ck')) rest) :
  J Tryz.prog ops Q n f e H (⟨some d, .call ⟨.value (.func 72), args, tys⟩, ty, pos, af, none⟩ :: rest) :=
 j_callE (R := fun w v w' => ∃ (T' : List ByteArray) (m : Nat), v = .int .i64 (m : Nat) ∧ T'[m]? = some s ∧ T <+: T' ∧ Tab w' mb S T' ∧ KeepX [mb] w w' ∧ (T' = T ∨ T' = T ++ [s])) call72 hargs hd (fun w hH _ => add_c w mb S T s ⟨⟨es, ck, hH.obj hi rfl, hM⟩, hT⟩ hs hS) fun w v w' hH hf hR => by
  obtain ⟨T', m, rfl, h1, h2, h3, h4, h0⟩ := hR
  obtain ⟨es', ck', h5, h6⟩ := h3.ex
  have hm := hH.mayx (List.mem_of_getElem? hi) rfl rfl
  refine k T' m es' ck' h1 h2 h3.sub h6 h0 w' (hH.putX hi rfl rfl (fun _ _ => hm) h4 ⟨fun h => (by cases h), fun o ho => by cases ho; exact h5⟩) (okK hf h4 hm fun o ho => ?_)
  have h7 := hH.obj hi rfl
  have h8 : w.heap[mb]? = some o := ho
  rw [h7] at h8
  cases h8; rfl
theorem j_callA {mb ck : Nat} {es : List MapEntry} {S T : List ByteArray} {s : ByteArray} {args : Array Operand} {tys : Array TypeId} (i : Nat) (hi : H[i]? = some (mpE mb es ck)) (hM : MEnc Value.string (tabM T) es ck) (hT : ∀ s ∈ T, s ∈ S) (hs : s ∈ S) (hS : S.length ≤ 100000000000)
  (hargs : evL e args.toList = some [.map (some mb), .string s]) (hd : Nat.blt d n = true)
  (k : ∀ (T' : List ByteArray) (m : Nat) es' ck', T'[m]? = some s → T <+: T' → (∀ s ∈ T', s ∈ S) → MEnc Value.string (tabM T') es' ck' → J Tryz.prog ops Q n f ((d, .int .i64 (m : Nat)) :: e) (putH H i (mpE mb es' ck')) rest) :
  J Tryz.prog ops Q n f e H (⟨some d, .call ⟨.value (.func 72), args, tys⟩, ty, pos, af, none⟩ :: rest) :=
 j_callA1 i hi hM hT hs hS hargs hd fun T' m es' ck' h1 h2 h3 h4 _ => k T' m es' ck' h1 h2 h3 h4
end
theorem Hp.rowMap {w : World} {b T mb ck : Nat} {W : List Nat} {cs : List Value} {es : List MapEntry} (hb : Blk w b T cs) (hm : w.heap[mb]? = some (.map es.toArray ck)) (hT : W.any (fun t => Nat.beq t T) = true) (hT2 : W.any (fun t => Nat.beq t 1000000) = true) :
  Hp ⟨w, 0, W⟩ w (⟨b, T, cs, true, true, none⟩ :: mpE mb es ck :: restH w [b, mb]) := by
 have hne : mb ≠ b := by
  rintro rfl
  have h1 : w.heap[mb]? = some (.cells cs.toArray T (0, 0)) := hb
  rw [hm] at h1; cases h1
 refine ⟨⟨fun _ => hb, fun o h => by cases h⟩, fun _ _ => .inr ⟨Nat.zero_le _, mem_of_any hT⟩, fun _ y hy he => ?_, ⟨fun h => (by cases h), fun o ho => by cases ho; exact hm⟩, fun _ _ => .inr ⟨Nat.zero_le _, mem_of_any hT2⟩, fun _ => rest_ne (by simp), Hp.rest _⟩
 rcases List.mem_cons.1 hy with rfl | hy
 ·exact hne
 ·exact rest_ne (by simp) y hy he
theorem frK {w0 u w' : World} {B : Nat} {W : List Nat} {l : List Nat} (h : Fr B W w0 u) (k : KeepX l u w') (hl : ∀ b ∈ l, w0.heap.size ≤ b ∨ (B ≤ b ∧ ∀ o : Obj, u.heap[b]? = some o → tagOf o ∈ W)) : Fr B W w0 w' :=
 ⟨k.os.trans h.os, k.tape.trans h.tape, k.output.trans h.output, Nat.le_trans h.size k.size, fun b o hb hc => by
  have h1 := h.keep b o hb hc
  refine k.keep b o h1 fun hm => ?_
  rcases hl b hm with h2 | ⟨h3, h2⟩
  ·have := (Array.getElem?_eq_some_iff.1 hb).1; omega
  ·rcases hc with hc | hc
   ·omega
   ·exact hc (h2 o h1)⟩
theorem tag_row {w : World} {b T : Nat} {cs : List Value} (h : Blk w b T cs) {W : List Nat} (hT : T ∈ W) : ∀ o : Obj, w.heap[b]? = some o → tagOf o ∈ W := fun o ho => by
 have h1 : w.heap[b]? = some (.cells cs.toArray T (0, 0)) := h
 rw [ho] at h1; cases h1; exact hT
/-! ### what stands in the table -/
def At (T : List ByteArray) (n : Int) (s : ByteArray) : Prop := ∃ k : Nat, n = k ∧ T[k]? = some s
theorem prefix_get {α : Type} {T T' : List α} (p : T <+: T') {k : Nat} {s : α} (h : T[k]? = some s) : T'[k]? = some s := by
 obtain ⟨e, rfl⟩ := p
 rw [List.getElem?_append_left (List.getElem?_eq_some_iff.1 h).1]; exact h
theorem At.mono {T T' : List ByteArray} {n : Int} {s : ByteArray} (h : At T n s) (p : T <+: T') : At T' n s := by
 obtain ⟨k, rfl, h⟩ := h
 exact ⟨k, rfl, prefix_get p h⟩
theorem At.mk {T T' : List ByteArray} {k : Nat} {s : ByteArray} (h : T[k]? = some s) (p : T <+: T') : At T' (k : Nat) s := ⟨k, rfl, prefix_get p h⟩
/-- parts up to k are as φ says, the others as ψ says -/
def Pg {α : Type} (k : Nat) (bs : List Nat) (xs : List α) (φ ψ : Nat → α → Prop) : Prop := ∀ (i : Nat) b x, bs[i]? = some b → xs[i]? = some x → (i < k → φ b x) ∧ (k ≤ i → ψ b x)
theorem Pg.mono {α : Type} {k : Nat} {bs : List Nat} {xs : List α} {φ φ' ψ ψ' : Nat → α → Prop} (h : Pg k bs xs φ ψ) (h1 : ∀ b x, φ b x → φ' b x) (h2 : ∀ b x, ψ b x → ψ' b x) : Pg k bs xs φ' ψ' := fun i b x hb hx => ⟨fun hi => h1 _ _ ((h i b x hb hx).1 hi), fun hi => h2 _ _ ((h i b x hb hx).2 hi)⟩
theorem nodup_ix {α : Type} {l : List α} (h : l.Nodup) {i j : Nat} (hi : i < l.length) (hj : j < l.length) (e : l[i] = l[j]) : i = j := by
 have hp := List.pairwise_iff_getElem.1 h
 rcases Nat.lt_trichotomy i j with h1 | h1 | h1
 ·exact absurd e (hp i j hi hj h1)
 ·exact h1
 ·exact absurd e.symm (hp j i hj hi h1)
theorem Pg.step {α : Type} {k b0 : Nat} {bs : List Nat} {xs : List α} {φ φ' ψ ψ' : Nat → α → Prop} {x0 : α} (h : Pg k bs xs φ ψ) (hn : bs.Nodup) (hb : bs[k]? = some b0) (hx : xs[k]? = some x0) (h1 : ∀ b x, b ≠ b0 → φ b x → φ' b x) (h2 : ∀ b x, b ≠ b0 → ψ b x → ψ' b x) (h3 : φ' b0 x0) : Pg (k + 1) bs xs φ' ψ' := fun i b x hb' hx' => by
 have hne : i ≠ k → b ≠ b0 := fun hik e => hik (by
  subst e
  have l1 := (List.getElem?_eq_some_iff.1 hb').1
  have l2 := (List.getElem?_eq_some_iff.1 hb).1
  rw [List.getElem?_eq_getElem l1] at hb'
  rw [List.getElem?_eq_getElem l2] at hb
  have e2 : bs[i] = bs[k] := by simp at hb' hb; rw [hb', hb]
  exact nodup_ix hn l1 l2 e2)
 refine ⟨fun hi => ?_, fun hi => h2 b x (hne (by omega)) ((h i b x hb' hx').2 (by omega))⟩
 by_cases hik : i = k
 ·subst hik
  rw [hb] at hb'; rw [hx] at hx'
  cases hb'; cases hx'
  exact h3
 ·exact h1 b x (hne hik) ((h i b x hb' hx').1 (by omega))
theorem Pg.full {α : Type} {k : Nat} {bs : List Nat} {xs : List α} {φ ψ : Nat → α → Prop} (h : Pg k bs xs φ ψ) (hl : bs.length = xs.length) (hk : xs.length ≤ k) : Each bs xs φ := ⟨hl, fun i b x hb hx => (h i b x hb hx).1 (by have := (List.getElem?_eq_some_iff.1 hx).1; omega)⟩
end Go.Proofs.YtifnhinopjgfaaaGreat
