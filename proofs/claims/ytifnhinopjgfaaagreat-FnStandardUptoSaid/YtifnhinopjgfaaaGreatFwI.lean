/-
  Maps as operations of the layer with a known heap. Conditions: as each lemma states them.
-/
import Derived.Test.YtifnhinopjgfaaaGreatFwH
namespace Go.Fw
open Go

/-- a known map -/
abbrev mpE (b : Nat) (es : List MapEntry) (ck : Nat) : Ent := ⟨b, 0, [], true, false, some (.map es.toArray ck)⟩
/-- a known iterator -/
abbrev itE (it b since : Nat) (seen : List Nat) (stepped : Nat) : Ent := ⟨it, 0, [], true, false, some (.mapIter (some b) since seen.toArray stepped)⟩

theorem Hp.dr {f : Fm} {w w' : World} {H : Heap} (h : Hp f w H) (hd : Dr w w') : Hp f w' H := h.mono fun _ _ _ o hb => by rw [hd.heap]; exact hb

section
variable {κ : Type} [DecidableEq κ] {enc : κ → Value} {ms : List (κ × Value)} {es : List MapEntry} {ck : Nat} {P : Program} {kt vt mt : Nat} {ok : World → κ → Prop}
variable {Q : Exit → Act → World → Prop} {n : Nat} {f : Fm} {e : Env} {H : Heap} {ops : Array Oper} {rest : List Oper} {d ty : Nat} {pos : String} {af : Array Edge} {b : Nat}

theorem Hp.putO {w w' : World} {i : Nat} {o o' : Obj} {wr : Bool} (h : Hp f w H) (hx : H[i]? = some ⟨b, 0, [], wr, false, some o⟩) (hwr : wr = true) (hu : Upd w w' b o') (htag : tagOf o' = tagOf o) (hf : f.ok w) :
  Hp f w' (putH H i ⟨b, 0, [], wr, false, some o'⟩) ∧ f.ok w' := by
 have hm := h.mayx (List.mem_of_getElem? hx) (by simp [Ent.ex]) hwr
 refine ⟨h.put hx (by simp [Ent.ex]) rfl ?_ hu ⟨fun ho => by simp at ho, fun o2 ho => by simp at ho; subst ho; exact hu.at_⟩, hf.updO (h.obj hx rfl) hm hu⟩
 intro _ _
 simp only [Ent.tag] at hm ⊢
 rw [htag]
 exact hm

theorem j_mkmap {t : Nat} {r : Option Operand} (hr : ∀ x, r = some x → (∃ kt vt, ∀ w, (underlying t).run P w = .ok (.map kt vt) w) ∧ ∃ kd q, ev e x = some (.int kd q)) (hd : Nat.blt d n = true)
  (k : ∀ b, J P ops Q n f ((d, .map (some b)) :: e) (mpE b [] 0 :: H) rest) : J P ops Q n f e H (⟨some d, .makeMap t r, ty, pos, af, none⟩ :: rest) := fun w hH hf => by
 have hn : New w { w with heap := w.heap.push (.map #[] 0) } w.heap.size (.map #[] 0) := ⟨rfl, rfl, rfl, rfl, rfl⟩
 refine L.valw hd (fun a ha => ?_) (k w.heap.size _ (hH.newO hf hn) (hf.new hn))
 simp only [execOp, Instr.makeMap]
 cases r with
 | none => simp [newObj, Sem.run]
 | some x =>
  obtain ⟨⟨kt, vt, hu⟩, kd, q, hx⟩ := hr x rfl
  simp [hu, ha.ev hx, asInt, asIntOf, newObj, Sem.run]

theorem r_mlook2 {m kx : Operand} {k : κ} {z : Value} (i : Nat) (hy : H[i]? = some (mpE b es ck)) (hu : ∀ w, (underlying mt).run P w = .ok (.map kt vt) w) (hk : KeyT P kt enc ok) (hM : MEnc enc ms es ck) (hz : ∀ w, (zeroValue vt).run P w = .ok z w)
  (hm : ev e m = some (.map (some b))) (hkx : ev e kx = some (enc k)) (hok : ∀ w, Hp f w H → f.ok w → (∀ p ∈ ms, ok w p.1) ∧ ok w k) {a : Act} {w : World} (ha : Sat n e a) (hH : Hp f w H) (hf : f.ok w) :
  (execOp a.eval ⟨some d, .lookup mt m kx true, ty, pos, af, none⟩).run P w = .ok (.value (.tuple #[(mget ms k).getD z, .bool (mget ms k).isSome])) w := by
 have h := hok w hH hf
 have := run_lookup (P := P) hu hk hM (hH.obj hy rfl) h.1 h.2 hz true
 simp only [execOp, ha.ev hm, ha.ev hkx]
 simp [this]
theorem r_mlen {t rt : Nat} {m : Operand} (i : Nat) (hy : H[i]? = some (mpE b es ck)) (hu : ∀ w, (underlying t).run P w = .ok (.map kt vt) w) (hm : ev e m = some (.map (some b))) {a : Act} {w : World} (ha : Sat n e a) (hH : Hp f w H) :
  (execOp a.eval ⟨some d, .call ⟨.builtin .len, #[m], #[t]⟩, rt, pos, af, none⟩).run P w = .ok (.value (.int .i64 es.length)) w := by
 simp only [execOp]
 simp [resolve, invoke, builtin, Builtin.len_, hu, goInt, ha.ev hm]
 simp [run_getObj (hH.obj hy rfl) rfl]

theorem j_mapupd {m kx vx : Operand} {k : κ} {u : Value} (i : Nat) (hy : H[i]? = some (mpE b es ck)) (hu : ∀ w, (underlying mt).run P w = .ok (.map kt vt) w) (hk : KeyT P kt enc ok) (hM : MEnc enc ms es ck)
  (hm : ev e m = some (.map (some b))) (hkx : ev e kx = some (enc k)) (hvx : ev e vx = some u) (hok : ∀ w, Hp f w H → f.ok w → (∀ p ∈ ms, ok w p.1) ∧ ok w k)
  (kk : ∀ es' ck', MEnc enc (mset ms k u) es' ck' → J P ops Q n f e (putH H i (mpE b es' ck')) rest) : J P ops Q n f e H (⟨none, .mapUpdate mt m kx vx, ty, pos, af, none⟩ :: rest) := fun w hH hf => by
 have h := hok w hH hf
 obtain ⟨es', ck', w', h1, h2, h3⟩ := run_mapUpdate (P := P) hu hk hM (hH.obj hy rfl) h.1 h.2 u
 obtain ⟨h4, h5⟩ := hH.putO hy rfl h3 rfl hf
 refine L.skip (fun a ha => ?_) (kk es' ck' h2 w' h4 h5)
 simp only [execOp, ha.ev hm, ha.ev hkx, ha.ev hvx]
 simp [h1]
theorem j_range {m : Operand} (i : Nat) (hy : H[i]? = some (mpE b es ck)) (hu : ∀ w, (underlying mt).run P w = .ok (.map kt vt) w) (hm : ev e m = some (.map (some b))) (hd : Nat.blt d n = true)
  (k : ∀ it, J P ops Q n f ((d, .pointer (some ⟨it, 0, none⟩)) :: e) (itE it b ck [] ck :: H) rest) : J P ops Q n f e H (⟨some d, .range mt m, ty, pos, af, none⟩ :: rest) := fun w hH hf => by
 have h1 := run_range (P := P) hu (hH.obj hy rfl)
 have hn : New w { w with heap := w.heap.push (.mapIter (some b) ck #[] ck) } w.heap.size (.mapIter (some b) ck #[] ck) := ⟨rfl, rfl, rfl, rfl, rfl⟩
 refine L.valw hd (fun a ha => ?_) (k w.heap.size _ (hH.newO hf hn) (hf.new hn))
 simp only [execOp, ha.ev hm]
 simp [h1]
theorem j_next {x : Operand} {it since stepped : Nat} {seen : List Nat} (i j : Nat) (hi : H[i]? = some (itE it b since seen stepped)) (hy : H[j]? = some (mpE b es ck)) (hlt : ∀ x ∈ es, x.born < since) (hst : since ≤ stepped) (hx : ev e x = some (.pointer (some ⟨it, 0, none⟩))) (hd : Nat.blt d n = true)
  (k1 : (∀ x ∈ es, x.born ∈ seen) → J P ops Q n f ((d, .tuple #[.bool false]) :: e) H rest)
  (k2 : ∀ x ∈ es, x.born ∉ seen → J P ops Q n f ((d, .tuple #[.bool true, x.key, x.val]) :: e) (putH H i (itE it b since (seen ++ [x.born]) ck)) rest) : J P ops Q n f e H (⟨some d, .next x false, ty, pos, af, none⟩ :: rest) := fun w hH hf => by
 rcases run_next (P := P) (rt := ty) (hH.obj hi rfl) (hH.obj hy rfl) hlt hst with ⟨w', h1, h2, h3, h4, h5, h6⟩ | ⟨w', x, h1, h2, h3, h4⟩
 ·have hD : Dr w w' := ⟨h3, h4, h5, h2⟩
  refine L.valw hd (fun a ha => ?_) (k1 h6 w' (hH.dr hD) (Fr.dr hf hD))
  simp only [execOp, ha.ev hx]
  simp [h1]
 ·obtain ⟨h5, h6⟩ := hH.putO hi rfl h2 rfl hf
  refine L.valw hd (fun a ha => ?_) (k2 x h3 h4 w' h5 h6)
  simp only [execOp, ha.ev hx]
  simp [h1]
end
section
variable {P : Program} {Q : Exit → Act → World → Prop} {n : Nat} {f : Fm} {e : Env} {H : Heap} {ops : Array Oper} {rest : List Oper} {d ty : Nat} {pos : String} {af : Array Edge} {HS : Heap} {nt : Nat} {r : Sched}

theorem Sat.cons {a : Act} {t : Nat} {v : Value} (h : Sat n e a) (ht : look e t = some v) : Sat n ((t, v) :: e) a := h.mono fun s u hs => by
 simp only [look] at hs
 cases hb : Nat.beq t s with
 | true =>
  rw [hb] at hs
  have := Nat.eq_of_beq_eq_true hb
  subst this
  simp at hs
  subst hs
  exact ht
 | false => rw [hb] at hs; exact hs
/-- a truth that is looked at: both ways -/
theorem j_split {l : List Oper} {t : Nat} {b : Bool} (ht : look e t = some (.bool b)) (h1 : b = true → J P ops Q n f ((t, .bool true) :: e) H l) (h2 : b = false → J P ops Q n f ((t, .bool false) :: e) H l) : J P ops Q n f e H l := fun w hH hf a ha => by
 cases b with
 | true => exact h1 rfl w hH hf a (ha.cons ht)
 | false => exact h2 rfl w hH hf a (ha.cons ht)
theorem dj_split {s : Sched} {t : Nat} {b : Bool} (ht : look e t = some (.bool b)) (h1 : b = true → DJ P ops Q f HS nt n ((t, .bool true) :: e) H s) (h2 : b = false → DJ P ops Q f HS nt n ((t, .bool false) :: e) H s) : DJ P ops Q f HS nt n e H s := fun w hH hf a ha => by
 cases b with
 | true => exact h1 rfl w hH hf a (ha.cons ht)
 | false => exact h2 rfl w hH hf a (ha.cons ht)
theorem dj_gt {i j t : Nat} {op : Op} {v : Value} {b : Bool} (hi : ops[i]? = some ⟨some d, op, ty, pos, af, some (j, b)⟩) (hj : (ops[j]?).bind (·.dst) = some t) (ht : look e t = some (.bool b)) (hd : Nat.blt d n = true) (hS : ∀ x ∈ HS, x ∈ H)
  (hr : ∀ a w, Sat n e a → Sx f HS w → (execOp a.eval ⟨some d, op, ty, pos, af, none⟩).run P w = .ok (.value v) w) (k : DJ P ops Q f HS nt n ((d, v) :: e) H r) : DJ P ops Q f HS nt n e H ((i, true) :: r) := fun w hH hf a ha => by
 have hy := yielded_of ha hj ht
 refine ⟨_, v, hi, .inl ⟨by simp [Region.wanted, hy], fun w2 hw => ?_⟩, ⟨fun x hx ho => hH.blk (hS x hx) ho, hf⟩, k w hH hf _ (ha.put hd)⟩
 exact hr a w2 ha hw
theorem dj_gf {i j t : Nat} {op : Op} {b c : Bool} (hi : ops[i]? = some ⟨some d, op, ty, pos, af, some (j, b)⟩) (hj : (ops[j]?).bind (·.dst) = some t) (ht : look e t = some (.bool c)) (hbc : (c != b) = true) (hd : Nat.blt d n = true) (hS : ∀ x ∈ HS, x ∈ H)
  (k : DJ P ops Q f HS nt n ((d, undef) :: e) H r) : DJ P ops Q f HS nt n e H ((i, true) :: r) := fun w hH hf a ha => by
 have hy := yielded_of ha hj ht
 refine ⟨_, undef, hi, .inr ⟨by simp [Region.wanted, hy]; simpa using hbc, rfl⟩, ⟨fun x hx ho => hH.blk (hS x hx) ho, hf⟩, k w hH hf _ (ha.put hd)⟩
theorem r_pick_t {c x y : Operand} {v : Value} (hc : ev e c = some (.bool true)) (hx : ev e x = some v) {a : Act} {w : World} (ha : Sat n e a) : (execOp a.eval ⟨some d, .pick c x y, ty, pos, af, none⟩).run P w = .ok (.value v) w := by
 simp only [execOp, ha.ev hc, ha.ev hx]; simp [asBool]
theorem r_pick_f {c x y : Operand} {v : Value} (hc : ev e c = some (.bool false)) (hy : ev e y = some v) {a : Act} {w : World} (ha : Sat n e a) : (execOp a.eval ⟨some d, .pick c x y, ty, pos, af, none⟩).run P w = .ok (.value v) w := by
 simp only [execOp, ha.ev hc, ha.ev hy]; simp [asBool]
end
end Go.Fw
