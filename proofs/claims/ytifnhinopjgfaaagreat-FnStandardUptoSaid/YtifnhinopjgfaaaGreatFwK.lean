/-
  Stretches begun anew, what a call makes, slices held in memory. Conditions: as each lemma states them.
-/
import Derived.Test.YtifnhinopjgfaaaGreatPl
namespace Go.Fw
open Go

/-- a new stretch begins at w: what is known and may be written has a tag that is listed -/
theorem Hp.again {w0 w : World} {B : Nat} {W0 W : List Nat} (hB : B ≤ w0.heap.size) : ∀ {H : Heap}, Hp ⟨w0, B, W0⟩ w H → (∀ x ∈ H, x.ex = true → x.wr = true → x.tag ∈ W) → Hp ⟨w, B, W⟩ w H
 | [], _, _ => trivial
 | _ :: _, h, hk => ⟨h.1, fun he hw => .inr ⟨(h.2.1 he hw).elim (Nat.le_trans hB) (·.1), hk _ (by simp) he hw⟩, h.2.2.1, Hp.again hB h.2.2.2 fun y hy => hk y (by simp [hy])⟩
/-- back to the stretch around it -/
theorem Hp.back {w0 w1 w : World} {B : Nat} {W0 W : List Nat} (hs : w0.heap.size ≤ w1.heap.size) (hc : w0.heap.size ≤ B ∨ ∀ x ∈ W, x ∈ W0) : ∀ {H : Heap}, Hp ⟨w1, B, W⟩ w H → Hp ⟨w0, B, W0⟩ w H
 | [], _ => trivial
 | _ :: _, h => ⟨h.1, fun he hw => by
   rcases h.2.1 he hw with h | ⟨h, h'⟩
   ·exact .inl (Nat.le_trans hs h)
   ·rcases hc with hc | hc
    ·exact .inl (Nat.le_trans hc h)
    ·exact .inr ⟨h, hc _ h'⟩, h.2.2.1, Hp.back hs hc h.2.2.2⟩
theorem ok_back {w0 w1 w : World} {B : Nat} {W0 W : List Nat} (h0 : Fm.ok ⟨w0, B, W0⟩ w1) (hc : w0.heap.size ≤ B ∨ ∀ x ∈ W, x ∈ W0) (h : Fm.ok ⟨w1, B, W⟩ w) : Fm.ok ⟨w0, B, W0⟩ w := Fr.trans h0 h (hc.imp id fun h => ⟨Nat.le_refl _, h⟩)
theorem keepOf {wd w1 : World} {B : Nat} {W : List Nat} (k : Keep wd w1) (hB : wd.heap.size ≤ B) (w' : World) (h : Fm.ok ⟨w1, B, W⟩ w') : Keep wd w' := fun b o hb => h.keep b o (k b o hb) (.inl (Nat.lt_of_lt_of_le (Array.getElem?_eq_some_iff.1 hb).1 hB))
theorem ok_blk {w1 w : World} {B b T : Nat} {W : List Nat} {cs : List Value} (h : Fm.ok ⟨w1, B, W⟩ w) (hb : Blk w1 b T cs) (hT : W.all (fun t => !Nat.beq t T) = true) : Blk w b T cs := h.blk hb (.inr fun hm => by
 have := List.all_eq_true.1 hT _ hm
 rw [Nat.beq_refl] at this
 cases this)
theorem ok_map {w1 w : World} {B b : Nat} {W : List Nat} {es : Array MapEntry} {ck : Nat} (h : Fm.ok ⟨w1, B, W⟩ w) (hb : w1.heap[b]? = some (.map es ck)) (hT : W.all (fun t => !Nat.beq t 1000000) = true) : w.heap[b]? = some (.map es ck) := h.keep _ _ hb (.inr fun hm => by
 have := List.all_eq_true.1 hT _ hm
 cases this)
theorem ok_refl {w : World} {B : Nat} {W : List Nat} : Fm.ok ⟨w, B, W⟩ w := Fr.refl _ _ _
/-- entries made such as may only be read -/
def ro (x : Ent) : Ent := { x with wr := false }
theorem Hp.ro {f : Fm} {w : World} : ∀ {H : Heap}, Hp f w H → Hp f w (H.map ro)
 | [], _ => trivial
 | _ :: _, h => ⟨⟨h.1.row, h.1.obj⟩, fun _ hw => by simp [Go.Fw.ro] at hw, fun he y hy hye => by
   obtain ⟨z, hz, rfl⟩ := List.mem_map.1 hy
   exact h.2.2.1 he z hz hye, Hp.ro h.2.2.2⟩
theorem Hp.roHead {f : Fm} {w : World} {x : Ent} {H : Heap} (h : Hp f w (x :: H)) : Hp f w (Go.Fw.ro x :: H) := ⟨⟨h.1.row, h.1.obj⟩, fun _ hw => by simp [Go.Fw.ro] at hw, h.2.2.1, h.2.2.2⟩
theorem Hp.lt {f : Fm} {w : World} {H : Heap} (h : Hp f w H) {x : Ent} (hx : x ∈ H) (he : x.ex = true) : x.b < w.heap.size := (h.has hx).lt he

section
variable {P : Program} {Q : Exit → Act → World → Prop} {n : Nat} {f : Fm} {e : Env} {H : Heap} {ops : Array Oper} {rest : List Oper} {d ty : Nat} {pos : String} {af : Array Edge}
/-- a call that makes new memory, and returns a pointer to a part of it -/
theorem j_callN {g : FuncId} {args : Array Operand} {vs : List Value} {tys : Array TypeId} {T : Nat} {cs : List Value} (hg : ∀ (as : Array Value) (w : World), (callFunc g as).run P w = .ok (.enter g as) w)
  (hargs : evL e args.toList = some vs) (hd : Nat.blt d n = true) (hc : ∀ w, Hp f w H → f.ok w → Calls P g vs.toArray w (Ret fun v w' => ∃ p, v = .pointer (some ⟨p, 0, none⟩) ∧ Blk w' p T cs ∧ w.heap.size ≤ p ∧ Fr 0 [] w w'))
  (k : ∀ p, J P ops Q n f ((d, .pointer (some ⟨p, 0, none⟩)) :: e) (⟨p, T, cs, true, true, none⟩ :: H) rest) : J P ops Q n f e H (⟨some d, .call ⟨.value (.func g), args, tys⟩, ty, pos, af, none⟩ :: rest) :=
 j_callE hg hargs hd hc fun w v w' hH hf hR => by
  obtain ⟨p, rfl, h1, h2, h3⟩ := hR
  exact k p w' ((hH.fr h3).add h1 (fun _ => .inl (Nat.le_trans hf.size h2)) fun y hy he => by have := hH.lt hy he; omega) (hf.fr h3)
/-- append(s, xs...) where xs lies in memory from the start -/
theorem j_appL {α : Type} {sT xT T by_ l m c c2 : Nat} {e2 : TypeId} {s x : Operand} {y : Ent} {p p2 : Option Addr} {xs : List Value} {zs : List α} {g : α → Value} (i : Nat) (hy : H[i]? = some y) (hO : Own T 1 y p l c xs)
  (hu : ∀ w, (underlying sT).run P w = .ok (.slice T) w) (hux : ∀ w, (underlying xT).run P w = .ok (.slice e2) w) (hT : ElT P T 1 by_) (hby : Nat.ble by_ 1000 = true)
  (hs : ev e s = some (.slice p l c)) (hxv : ev e x = some (.slice p2 m c2)) (hm : zs.length = m) (hx : ∀ w, Hp f w H → f.ok w → ∀ w1 : World, Keep w w1 → (Builtin.firstCells 1 m (.slice p2 m c2)).run P w1 = .ok (zs.map g).toArray w1)
  (hsc : ∀ z, scal (g z) = true) (hbig : l + m ≤ 100000000000) (hd : Nat.blt d n = true)
  (k : ∀ y' p' c', Own T 1 y' p' (l + m) c' (xs ++ zs.map g) → J P ops Q n f ((d, .slice p' (l + m) c') :: e) (putH H i y') rest) :
  J P ops Q n f e H (⟨some d, .call ⟨.builtin .append, #[s, x], #[sT, xT]⟩, ty, pos, af, none⟩ :: rest) :=
 j_append i hy hO.hT hO.ho hO.hw hu hux (.inl ⟨_, rfl⟩) hT hby hs hxv hO.sl (lenOf_slice _ _ _) (fun w w1 hH hf k => hx w hH hf w1 k) (by simp [hm]) (by simp [List.all_eq_true, hsc]) hbig hd fun y' p' c' h1 h2 h3 h4 => k y' p' c' ⟨h1, h2, h3, h4⟩
end
theorem Own.empty {T sz b : Nat} : Own T sz ⟨b, T, [], true, true, none⟩ (some ⟨b, 0, none⟩) 0 0 [] := ⟨rfl, rfl, rfl, by simp, Nat.le_refl _, .inl ⟨rfl, rfl, ⟨[], rfl⟩, by simp⟩⟩
/-- a laid list's cells, read at once -/
theorem Lay.first1 {α : Type} {P : Program} {R : World → List Value → α → Prop} {g : α → Value} {w : World} {v : Value} {xs : List α} (h : Lay R 1 w v xs) (hR : ∀ c x, R w c x → c = [g x]) (w1 : World) (k : Keep w w1) :
  (Builtin.firstCells 1 xs.length v).run P w1 = .ok (xs.map g).toArray w1 := by
 obtain ⟨cs, ⟨⟨p, c, rfl, h2, h3⟩, h4, h5⟩, h6, h7, h8⟩ := h
 have hcs : cs = xs.map fun x => [g x] := by
  apply List.ext_getElem?
  intro i
  by_cases hi : i < xs.length
  ·rw [List.getElem?_map, List.getElem?_eq_getElem hi, List.getElem?_eq_getElem (by omega)]
   simp only [Option.map_some]
   rw [hR _ _ (h8 i _ _ (List.getElem?_eq_getElem (by omega)) (List.getElem?_eq_getElem hi))]
  ·rw [List.getElem?_eq_none (by omega), List.getElem?_eq_none (by simp; omega)]
 rw [hcs, flat1] at h3
 rcases h3 with h3 | ⟨b, o, rfl, h3⟩
 ·have : xs = [] := List.eq_nil_of_length_eq_zero h3
  subst this
  cases p with
  | none => simp [Builtin.firstCells]
  | some a =>
   simp only [Builtin.firstCells, List.length_nil, Nat.zero_mul, List.map_nil]
   rfl
 ·simp only [Builtin.firstCells]
  have hl : xs.length * 1 = (xs.map g).length := by simp
  rw [hl]
  exact run_loadCells w1 _ _ fun j u hj => k.cell (h3 j u hj)

/-- a slice in memory, with its room, that no more is known of than its cells -/
def OS (T sz : Nat) (w : World) (v : Value) (xs : List Value) : Prop := ∃ y p l c, v = .slice p l c ∧ Own T sz y p l c xs ∧ (y.on = true → Blk w y.b T y.cs)
theorem OS.nil {T sz : Nat} {w : World} : OS T sz w (.slice none 0 0) [] := ⟨nilE T, none, 0, 0, rfl, Own.nil, fun h => by simp [nilE] at h⟩
theorem Own.os {T sz l c : Nat} {y : Ent} {p : Option Addr} {xs : List Value} (h : Own T sz y p l c xs) {f : Fm} {w : World} {H : Heap} {i : Nat} (hH : Hp f w H) (hy : H[i]? = some y) : OS T sz w (.slice p l c) xs :=
 ⟨y, p, l, c, rfl, h, fun ho => by have := hH.get hy ho; rw [h.hT] at this; exact this⟩
theorem OS.mono {T sz : Nat} {w w' : World} {v : Value} {xs : List Value} (h : OS T sz w v xs) (k : ∀ b cs, Blk w b T cs → Blk w' b T cs) : OS T sz w' v xs := by
 obtain ⟨y, p, l, c, h1, h2, h3⟩ := h
 exact ⟨y, p, l, c, h1, h2, fun ho => k _ _ (h3 ho)⟩
theorem OS.scal {T sz : Nat} {w : World} {v : Value} {xs : List Value} (h : OS T sz w v xs) : ∃ p l c, v = .slice p l c ∧ xs.length = l * sz := by
 obtain ⟨y, p, l, c, h1, h2, h3⟩ := h
 exact ⟨p, l, c, h1, h2.sl.1⟩
/-- the parts of such a slice, and its cells one by one -/
theorem OS.open {T sz : Nat} {w : World} {v : Value} {xs : List Value} (h : OS T sz w v xs) : ∃ p l c, v = .slice p l c ∧ xs.length = l * sz ∧ l ≤ c ∧ (0 < l → ∃ b, p = some ⟨b, 0, none⟩ ∧ ∀ w', Keep w w' → ∀ (j : Nat) (u : Value), xs[j]? = some u → w'.cell? ⟨b, j, none⟩ = some u) := by
 obtain ⟨y, p, l, c, h1, h2, h3⟩ := h
 refine ⟨p, l, c, h1, h2.sl.1, h2.sl.2.1, fun hl => ?_⟩
 obtain ⟨-, -, h4⟩ := h2.sl
 rcases h4 with ⟨h5, h6, ⟨ex, h7⟩, -⟩ | ⟨h5, h6, h7⟩
 ·refine ⟨y.b, h6, fun w' k j u hj => ?_⟩
  have hb := h3 h5
  refine k.cell ?_
  rw [hb.cell, h7, List.getElem?_append_left (List.getElem?_eq_some_iff.1 hj).1]
  exact hj
 ·have := h2.sl.2.1; omega
/-! ### what may be written where a stretch begins anew -/
def TagOK (W : List Nat) (H : Heap) : Prop := ∀ x ∈ H, x.ex = true → x.wr = true → x.tag ∈ W
theorem TagOK.nil {W : List Nat} : TagOK W [] := by intro x hx; cases hx
theorem TagOK.ro {W : List Nat} {H : Heap} {x : Ent} (h : TagOK W H) (hx : x.wr = false) : TagOK W (x :: H) := by
 intro y hy he hw
 rcases List.mem_cons.1 hy with rfl | hy
 ·rw [hx] at hw; cases hw
 ·exact h y hy he hw
theorem mem_of_any {W : List Nat} {T : Nat} (h : W.any (fun t => Nat.beq t T) = true) : T ∈ W := by
 obtain ⟨t, ht, he⟩ := List.any_eq_true.1 h
 rw [Nat.eq_of_beq_eq_true he] at ht; exact ht
theorem TagOK.row {W : List Nat} {H : Heap} {b T : Nat} {cs : List Value} {wr : Bool} (h : TagOK W H) (hT : W.any (fun t => Nat.beq t T) = true) : TagOK W (⟨b, T, cs, wr, true, none⟩ :: H) := by
 intro y hy he hw
 rcases List.mem_cons.1 hy with rfl | hy
 ·exact mem_of_any hT
 ·exact h y hy he hw
theorem Own.tag {T sz l c : Nat} {y : Ent} {p : Option Addr} {xs : List Value} (h : Own T sz y p l c xs) : y.tag = T := by simp [Ent.tag, h.ho, h.hT]
theorem TagOK.own {W : List Nat} {H : Heap} {T sz l c : Nat} {y : Ent} {p : Option Addr} {xs : List Value} (h : TagOK W H) (hO : Own T sz y p l c xs) (hT : W.any (fun t => Nat.beq t T) = true) : TagOK W (y :: H) := by
 intro z hz he hw
 rcases List.mem_cons.1 hz with rfl | hz
 ·rw [hO.tag]; exact mem_of_any hT
 ·exact h z hz he hw
/-- what has none of some tags -/
def TagNo (W : List Nat) (H : Heap) : Prop := ∀ x ∈ H, x.ex = true → x.tag ∉ W
theorem not_mem_of_all {W : List Nat} {T : Nat} (h : W.all (fun t => !Nat.beq t T) = true) : T ∉ W := fun hm => by
 have := List.all_eq_true.1 h _ hm
 rw [Nat.beq_refl] at this
 cases this
theorem TagNo.nil {W : List Nat} : TagNo W [] := by intro x hx; cases hx
theorem TagNo.row {W : List Nat} {H : Heap} {b T : Nat} {cs : List Value} {wr : Bool} (h : TagNo W H) (hT : W.all (fun t => !Nat.beq t T) = true) : TagNo W (⟨b, T, cs, wr, true, none⟩ :: H) := by
 intro y hy he
 rcases List.mem_cons.1 hy with rfl | hy
 ·exact not_mem_of_all hT
 ·exact h y hy he
theorem TagNo.own {W : List Nat} {H : Heap} {T sz l c : Nat} {y : Ent} {p : Option Addr} {xs : List Value} (h : TagNo W H) (hO : Own T sz y p l c xs) (hT : W.all (fun t => !Nat.beq t T) = true) : TagNo W (y :: H) := by
 intro z hz he
 rcases List.mem_cons.1 hz with rfl | hz
 ·rw [hO.tag]; exact not_mem_of_all hT
 ·exact h z hz he
theorem TagNo.ownR {W : List Nat} {H : Heap} {T sz l c : Nat} {y : Ent} {p : Option Addr} {xs : List Value} (h : TagNo W H) (hO : Own T sz y p l c xs) (hT : W.all (fun t => !Nat.beq t T) = true) : TagNo W (Go.Fw.ro y :: H) := by
 intro z hz he
 rcases List.mem_cons.1 hz with rfl | hz
 ·have : (Go.Fw.ro y).tag = y.tag := rfl
  rw [this, hO.tag]; exact not_mem_of_all hT
 ·exact h z hz he
theorem Ent.has.tag {x : Ent} {w : World} (h : x.has w) (he : x.ex = true) {o : Obj} (ho : w.heap[x.b]? = some o) : tagOf o = x.tag := by
 unfold Ent.tag
 split
 ·rename_i o' hob
  have := h.obj _ hob
  rw [ho] at this; cases this; rfl
 ·rename_i hob
  simp only [Ent.ex, hob, Option.isSome_none, Bool.or_false] at he
  have h1 : w.heap[x.b]? = some (.cells x.cs.toArray x.T (0, 0)) := h.row he
  rw [ho] at h1; cases h1; rfl
/-- an entry turned by a call that turned nothing else of what is known -/
theorem Hp.putK {f : Fm} {w w' : World} {H : Heap} {i : Nat} {y y' : Ent} (h : Hp f w H) (hx : H[i]? = some y) (ho : y.ex = true) (hb : y'.b = y.b) (hm : y'.ex = true → y'.wr = true → f.may y'.b y'.tag)
  (hk : ∀ z ∈ H, z.ex = true → z.b ≠ y.b → ∀ o : Obj, w.heap[z.b]? = some o → w'.heap[z.b]? = some o) (hh : y'.has w') : Hp f w' (putH H i y') := by
 induction H generalizing i with
 | nil => simp at hx
 | cons x r ih =>
  cases i with
  | zero =>
   simp only [List.getElem?_cons_zero, Option.some.injEq] at hx
   subst hx
   exact ⟨hh, hm, fun _ => by rw [hb]; exact h.2.2.1 ho, h.2.2.2.mono fun z hz hzx o hzo => hk z (by simp [hz]) hzx (h.2.2.1 ho z hz hzx) o hzo⟩
  | succ i =>
   simp only [List.getElem?_cons_succ] at hx
   have hmem : y ∈ r := List.mem_of_getElem? hx
   refine ⟨⟨fun hxo => ?_, fun o hxo => ?_⟩, h.2.1, ?_, ih h.2.2.2 hx fun z hz => hk z (by simp [hz])⟩
   ·have hne := h.2.2.1 (by simp [Ent.ex, hxo]) y hmem ho
    exact hk x (by simp) (by simp [Ent.ex, hxo]) hne.symm _ (h.1.row hxo)
   ·have hne := h.2.2.1 (by simp [Ent.ex, hxo]) y hmem ho
    exact hk x (by simp) (by simp [Ent.ex, hxo]) hne.symm _ (h.1.obj o hxo)
   ·intro hxx z hz hzx
    rcases mem_putH hz with rfl | hz
    ·rw [hb]; exact h.2.2.1 hxx y hmem ho
    ·exact h.2.2.1 hxx z hz hzx
theorem Hp.fresh' {w1 w : World} {B : Nat} {W : List Nat} {H : Heap} (h : Hp ⟨w1, B, W⟩ w H) {i b T : Nat} {cs : List Value} (hx : H[i]? = some ⟨b, T, cs, true, true, none⟩) (hT : W.all (fun t => !Nat.beq t T) = true) : w1.heap.size ≤ b := by
 rcases h.may (List.mem_of_getElem? hx) rfl rfl with h | ⟨-, h⟩
 ·exact h
 ·exact absurd h (not_mem_of_all hT)
theorem Hp.roTail {f : Fm} {w : World} {x : Ent} {H : Heap} (h : Hp f w (x :: H)) : Hp f w (x :: H.map Go.Fw.ro) := ⟨h.1, h.2.1, fun he y hy hye => by
  obtain ⟨z, hz, rfl⟩ := List.mem_map.1 hy
  exact h.2.2.1 he z hz hye, h.2.2.2.ro⟩
/-- the entry of an owned slice that is not empty -/
theorem Own.pos {T sz l c : Nat} {y : Ent} {p : Option Addr} {xs : List Value} (h : Own T sz y p l c xs) (hl : 0 < l) : y.on = true ∧ p = some ⟨y.b, 0, none⟩ := by
 obtain ⟨-, h2, h3⟩ := h.sl
 rcases h3 with h3 | h3
 ·exact ⟨h3.1, h3.2.1⟩
 ·omega
theorem Own.cell {T l c : Nat} {y : Ent} {p : Option Addr} {xs : List Value} (h : Own T 1 y p l c xs) {w : World} (hb : Blk w y.b y.T y.cs) {i : Nat} {v : Value} (hv : xs[i]? = some v) : w.cell? ⟨y.b, 0 + i * 1, none⟩ = some v := by
 have hi := (List.getElem?_eq_some_iff.1 hv).1
 have hl : xs.length = l := by have := h.sl.1; omega
 have hon := h.pos (by omega)
 obtain ⟨-, -, h3⟩ := h.sl
 rcases h3 with ⟨-, -, ⟨ex, h4⟩, -⟩ | ⟨h4, -⟩
 ·rw [Nat.zero_add, Nat.mul_one, hb.cell, h4, List.getElem?_append_left hi]; exact hv
 ·rw [h4] at hon; cases hon.1
theorem Own.osR {T sz l c : Nat} {y : Ent} {p : Option Addr} {xs : List Value} (h : Own T sz y p l c xs) {f : Fm} {w : World} {H : Heap} {i : Nat} (hH : Hp f w H) (hy : H[i]? = some (Go.Fw.ro y)) : OS T sz w (.slice p l c) xs :=
 ⟨y, p, l, c, rfl, h, fun ho => by
  have h1 : Blk w (Go.Fw.ro y).b (Go.Fw.ro y).T (Go.Fw.ro y).cs := hH.get (x := Go.Fw.ro y) hy ho
  have h2 : Blk w y.b y.T y.cs := h1
  rw [h.hT] at h2; exact h2⟩
section
variable {P : Program} {n : Nat} {e : Env} {d ty : Nat} {pos : String} {af : Array Edge} {w : World}
theorem r_idxI {t : Nat} {x y : Operand} {b o l c elem sz : Nat} {kd : IntKind} {z : Int} (i : Nat) (hu : ∀ w, (underlying t).run P w = .ok (.slice elem) w) (hsz : ∀ w, (sizeOf elem).run P w = .ok sz w)
  {p : Option Addr} (hx : ev e x = some (.slice p l c)) (hp : p = some ⟨b, o, none⟩) (hy : ev e y = some (.int kd z)) (hz : z = (i : Int)) (hi : i < l) {a : Act} (ha : Sat n e a) :
  (execOp a.eval ⟨some d, .indexAddr t x y, ty, pos, af, none⟩).run P w = .ok (.value (.pointer (some ⟨b, o + i * sz, none⟩))) w := by
 subst hz; subst hp; exact r_idx hu hsz hx hy hi ha
end
/-- what has none of some tags, but for block b -/
def TagNoB (W : List Nat) (b : Nat) (H : Heap) : Prop := ∀ x ∈ H, x.ex = true → x.b ≠ b → x.tag ∉ W
theorem TagNoB.of {W : List Nat} {b : Nat} {H : Heap} (h : TagNo W H) : TagNoB W b H := fun x hx he _ => h x hx he
theorem TagNoB.self {W : List Nat} {b T : Nat} {H : Heap} {cs : List Value} {wr : Bool} (h : TagNoB W b H) : TagNoB W b (⟨b, T, cs, wr, true, none⟩ :: H) := by
 intro y hy he hb
 rcases List.mem_cons.1 hy with rfl | hy
 ·exact absurd rfl hb
 ·exact h y hy he hb
theorem TagNoB.own {W : List Nat} {b : Nat} {H : Heap} {T sz l c : Nat} {y : Ent} {p : Option Addr} {xs : List Value} (h : TagNoB W b H) (hO : Own T sz y p l c xs) (hT : W.all (fun t => !Nat.beq t T) = true) : TagNoB W b (y :: H) := by
 intro z hz he hb
 rcases List.mem_cons.1 hz with rfl | hz
 ·rw [hO.tag]; exact not_mem_of_all hT
 ·exact h z hz he hb
/-- the first entries made such as may only be read -/
def roN : Nat → Heap → Heap
 | 0, H => H
 | _, [] => []
 | n + 1, x :: r => ro x :: roN n r
theorem roN_mem : ∀ {n : Nat} {H : Heap} {y : Ent}, y ∈ roN n H → ∃ z ∈ H, z.b = y.b ∧ z.ex = y.ex
 | 0, H, y, h => ⟨y, h, rfl, rfl⟩
 | n + 1, [], y, h => by simp [roN] at h
 | n + 1, x :: r, y, h => by
  rcases List.mem_cons.1 h with rfl | h
  ·exact ⟨x, by simp, rfl, rfl⟩
  ·obtain ⟨z, hz, h1, h2⟩ := roN_mem h
   exact ⟨z, by simp [hz], h1, h2⟩
theorem Hp.roN {f : Fm} {w : World} : ∀ {n : Nat} {H : Heap}, Hp f w H → Hp f w (roN n H)
 | 0, _, h => h
 | _ + 1, [], h => h
 | _ + 1, _ :: _, h => ⟨⟨h.1.row, h.1.obj⟩, fun _ hw => by simp [Go.Fw.ro] at hw, fun he y hy hye => by
   obtain ⟨z, hz, h1, h2⟩ := roN_mem hy
   rw [← h1]
   exact h.2.2.1 he z hz (by rw [h2]; exact hye), Hp.roN h.2.2.2⟩
end Go.Fw
