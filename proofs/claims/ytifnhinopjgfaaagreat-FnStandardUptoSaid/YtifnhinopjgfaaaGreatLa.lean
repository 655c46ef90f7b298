/-
  Labels put together by their keys, in plain Lean and in memory. Conditions: as each lemma states them.
-/
import Derived.Test.YtifnhinopjgfaaaGreatLb
import Derived.Test.YtifnhinopjgfaaaGreatPr
namespace Go.Fw
open Go Go.Proofs.YtifnhinopjgfaaaGreat
theorem KeepX.blkT {w w' : World} {s T T' b : Nat} {cs cs' : List Value} (h : KeepX [s] w w') (hs : Blk w s T cs) (hT : Nat.beq T T' = false) (hb : Blk w b T' cs') : Blk w' b T' cs' := h.keep b _ hb (by
 simp only [List.mem_singleton]
 rintro rfl
 have h1 : (Obj.cells cs.toArray T (0, 0)) = .cells cs'.toArray T' (0, 0) := Option.some.inj (hs.symm.trans hb)
 injection h1 with _ h2
 rw [h2, Nat.beq_refl] at hT; cases hT)
theorem Hp.dropN {f : Fm} {w : World} : ∀ (n : Nat) {H : Heap}, Hp f w H → Hp f w (H.drop n)
 | 0, _, h => h
 | n + 1, [], _ => trivial
 | n + 1, _ :: _, h => Hp.dropN n h.2.2.2
/-! ### groups -/
def gAdd {α : Type} (g : List (ByteArray × List α)) (k : ByteArray) (v : α) : List (ByteArray × List α) := match g.getLast? with
 | some q => if q.1 = k then g.dropLast ++ [(k, q.2 ++ [v])] else g ++ [(k, [v])]
 | none => [(k, [v])]
abbrev LE := ByteArray × Option ByteArray × Int
def addT (g : List (ByteArray × List ByteArray)) (e : LE) : List (ByteArray × List ByteArray) := match e.2.1 with
 | some t => gAdd g e.1 t
 | none => g
def addN (g : List (ByteArray × List Int)) (e : LE) : List (ByteArray × List Int) := match e.2.1 with
 | some _ => g
 | none => gAdd g e.1 e.2.2
def foldT (es : List LE) : List (ByteArray × List ByteArray) := es.foldl addT []
def foldN (es : List LE) : List (ByteArray × List Int) := es.foldl addN []
/-- a key is the last one's or behind all -/
def KeyOK {α : Type} (g : List (ByteArray × List α)) (k : ByteArray) : Prop := (∀ q ∈ g, ltB q.1 k = true) ∨ ∃ g0 l, g = g0 ++ [(k, l)] ∧ ∀ q ∈ g0, ltB q.1 k = true
theorem gAdd_last {α : Type} (g0 : List (ByteArray × List α)) (k : ByteArray) (l : List α) (v : α) : gAdd (g0 ++ [(k, l)]) k v = g0 ++ [(k, l ++ [v])] := by
 unfold gAdd; simp
theorem gAdd_new {α : Type} {g : List (ByteArray × List α)} {k : ByteArray} (h : ∀ q ∈ g, ltB q.1 k = true) (v : α) : gAdd g k v = g ++ [(k, [v])] := by
 unfold gAdd
 cases hl : g.getLast? with
 | none => simp at hl; subst hl; rfl
 | some q =>
  have := h q (List.mem_of_getLast? hl)
  simp only
  rw [if_neg]
  intro he; rw [he, ltB_irrefl] at this; cases this
theorem foldT_step {es : List LE} {i : Nat} (hi : i < es.length) : foldT (es.take (i + 1)) = addT (foldT (es.take i)) es[i] := by
 unfold foldT; rw [← List.take_append_getElem hi, List.foldl_append]; rfl
theorem foldN_step {es : List LE} {i : Nat} (hi : i < es.length) : foldN (es.take (i + 1)) = addN (foldN (es.take i)) es[i] := by
 unfold foldN; rw [← List.take_append_getElem hi, List.foldl_append]; rfl
def Few {α : Type} (n : Nat) (g : List (ByteArray × List α)) : Prop := g.length ≤ n ∧ ∀ q ∈ g, q.2.length ≤ n
theorem Few.mono {α : Type} {n m : Nat} {g : List (ByteArray × List α)} (h : Few n g) (hm : n ≤ m) : Few m g := ⟨Nat.le_trans h.1 hm, fun q hq => Nat.le_trans (h.2 q hq) hm⟩
theorem Few.add {α : Type} {n : Nat} {g : List (ByteArray × List α)} (h : Few n g) (k : ByteArray) (v : α) : Few (n + 1) (gAdd g k v) := by
 unfold gAdd
 split
 ·next q hq =>
  have hm := List.mem_of_getLast? hq
  split
  ·refine ⟨by have := h.1; have := List.length_pos_of_mem hm; simp; omega, fun z hz => ?_⟩
   rcases List.mem_append.1 hz with hz | hz
   ·exact Nat.le_succ_of_le (h.2 z ((List.dropLast_sublist _).subset hz))
   ·simp at hz; subst hz; have := h.2 q hm; simp; exact this
  ·refine ⟨by have := h.1; simp; exact this, fun z hz => ?_⟩
   rcases List.mem_append.1 hz with hz | hz
   ·exact Nat.le_succ_of_le (h.2 z hz)
   ·simp at hz; subst hz; simp
 ·exact ⟨by simp, fun z hz => by simp at hz; subst hz; simp⟩
theorem foldT_few (es : List LE) : ∀ i, i ≤ es.length → Few i (foldT (es.take i))
 | 0, _ => ⟨by simp [foldT], by simp [foldT]⟩
 | i + 1, h => by
  rw [foldT_step (by omega)]
  have := foldT_few es i (by omega)
  unfold addT
  split
  ·exact this.add _ _
  ·exact this.mono (by omega)
theorem foldN_few (es : List LE) : ∀ i, i ≤ es.length → Few i (foldN (es.take i))
 | 0, _ => ⟨by simp [foldN], by simp [foldN]⟩
 | i + 1, h => by
  rw [foldN_step (by omega)]
  have := foldN_few es i (by omega)
  unfold addN
  split
  ·exact this.mono (by omega)
  ·exact this.add _ _
theorem KeyOK.bs {α : Type} {g : List (ByteArray × List α)} {k : ByteArray} (h : KeyOK g k) : ∃ (m : Nat) (fnd : Bool), m ≤ g.length ∧ (∀ (i : Nat) q, g[i]? = some q → i < m → ltB q.1 k = true) ∧ (∀ (i : Nat) q, g[i]? = some q → m ≤ i → ltB q.1 k = false) ∧
  ((fnd = true ∧ ∃ g0 l, g = g0 ++ [(k, l)] ∧ m = g0.length) ∨ (fnd = false ∧ m = g.length ∧ ∀ q ∈ g, ltB q.1 k = true)) := by
 rcases h with h | ⟨g0, l, rfl, h⟩
 ·exact ⟨g.length, false, Nat.le_refl _, fun i q hq _ => h q (List.mem_of_getElem? hq), fun i q hq hi => by have := (List.getElem?_eq_some_iff.1 hq).1; omega, .inr ⟨rfl, rfl, h⟩⟩
 ·refine ⟨g0.length, true, by simp, fun i q hq hi => ?_, fun i q hq hi => ?_, .inl ⟨rfl, g0, l, rfl, rfl⟩⟩
  ·rw [List.getElem?_append_left hi] at hq; exact h q (List.mem_of_getElem? hq)
  ·have := (List.getElem?_eq_some_iff.1 hq).1
   simp at this
   obtain rfl : i = g0.length := by omega
   simp at hq; subst hq; exact ltB_irrefl _
/-! ### groups in memory -/
def cK {α : Type} (q : ByteArray × Value × List α) : List Value := [.string q.1, q.2.1]
structure Sd (f : Fm) (T T2 : Nat) {α : Type} (enc : α → Value) (R : Heap) (y z : Ent) (v : Value) (g : List (ByteArray × List α)) : Prop where
 ex : ∃ qs : List (ByteArray × Value × List α), qs.map (fun q => (q.1, q.2.2)) = g ∧ (∃ p c, v = .slice p g.length c ∧ Own T 2 y p g.length c (qs.flatMap cK)) ∧
  (∀ (i : Nat) q, qs[i]? = some q → i + 1 < qs.length → ∀ w', Hp f w' R → OS T2 1 w' q.2.1 (q.2.2.map enc)) ∧
  (∀ (i : Nat) q, qs[i]? = some q → i + 1 = qs.length → ∃ p c, q.2.1 = .slice p q.2.2.length c ∧ Own T2 1 z p q.2.2.length c (q.2.2.map enc))
/-- such groups, as a fact of the world -/
def SdR (T T2 : Nat) {α : Type} (enc : α → Value) (w : World) (v : Value) (g : List (ByteArray × List α)) : Prop :=
 ∃ qs : List (ByteArray × Value × List α), qs.map (fun q => (q.1, q.2.2)) = g ∧ OS T 2 w v (qs.flatMap cK) ∧ ∀ q ∈ qs, OS T2 1 w q.2.1 (q.2.2.map enc)
section
variable {f : Fm} {T T2 : Nat} {α : Type} {enc : α → Value} {R : Heap} {y z : Ent} {v : Value} {g : List (ByteArray × List α)}
theorem Sd.nil : Sd f T T2 enc R (nilE T) (nilE T2) (.slice none 0 0) [] := ⟨[], rfl, ⟨none, 0, rfl, Own.nil⟩, by simp, by simp⟩
theorem Sd.more {R' : Heap} (h : Sd f T T2 enc R y z v g) (k : ∀ w', Hp f w' R' → Hp f w' R) : Sd f T T2 enc R' y z v g := by
 obtain ⟨qs, h1, h2, h3, h4⟩ := h.ex
 exact ⟨qs, h1, h2, fun i q hq hi w' hH => h3 i q hq hi w' (k w' hH), h4⟩
theorem Sd.toR {w : World} {H : Heap} {i j : Nat} (h : Sd f T T2 enc R y z v g) (hH : Hp f w H) (hy : H[i]? = some y) (hz : H[j]? = some z) (hR : Hp f w R) : SdR T T2 enc w v g := by
 obtain ⟨qs, h1, ⟨p, c, rfl, h2⟩, h3, h4⟩ := h.ex
 refine ⟨qs, h1, h2.os hH hy, fun q hq => ?_⟩
 obtain ⟨k, hk⟩ := List.mem_iff_getElem?.1 hq
 have := (List.getElem?_eq_some_iff.1 hk).1
 by_cases hl : k + 1 = qs.length
 ·obtain ⟨p, c, h5, h6⟩ := h4 k q hk hl
  rw [h5]; exact h6.os hH hz
 ·exact h3 k q hk (by omega) w hR
theorem SdR.mono {w w' : World} (h : SdR T T2 enc w v g) (k1 : ∀ b cs, Blk w b T cs → Blk w' b T cs) (k2 : ∀ b cs, Blk w b T2 cs → Blk w' b T2 cs) : SdR T T2 enc w' v g := by
 obtain ⟨qs, h1, h2, h3⟩ := h
 exact ⟨qs, h1, h2.mono k1, fun q hq => (h3 q hq).mono k2⟩
theorem Sd.own (h : Sd f T T2 enc R y z v g) : ∃ (p : Option Addr) (c : Nat) (qs : List (ByteArray × Value × List α)), v = .slice p g.length c ∧ Own T 2 y p g.length c (qs.flatMap cK) ∧ qs.map (fun q => (q.1, q.2.2)) = g := by
 obtain ⟨qs, h1, ⟨p, c, h2, h3⟩, -⟩ := h.ex
 exact ⟨p, c, qs, h2, h3, h1⟩
/-- a new key behind all others -/
theorem Sd.push {y' : Ent} {p' : Option Addr} {c' : Nat} {qs : List (ByteArray × Value × List α)} {p : Option Addr} {c : Nat} {key : ByteArray} (h : Sd f T T2 enc R y z (.slice p g.length c) g) (hy : ∀ xs, Own T 2 y p g.length c xs → Own T 2 y' p' (g.length + 1) c' (xs ++ [.string key, .slice none 0 0])) :
  Sd f T T2 enc (z :: R) y' (nilE T2) (.slice p' (g.length + 1) c') (g ++ [(key, [])]) := by
 obtain ⟨qs, h1, ⟨p0, c0, he, h2⟩, h3, h4⟩ := h.ex
 injection he with e1 e2 e3
 subst e1; subst e3
 refine ⟨qs ++ [(key, .slice none 0 0, [])], by simp [h1], ⟨p', c', by simp, ?_⟩, fun i q hq hi w' hH => ?_, fun i q hq hi => ?_⟩
 ·have := hy _ h2
  rw [List.flatMap_append, List.flatMap_singleton, List.length_append]
  exact this
 ·simp at hi
  rw [List.getElem?_append_left (by omega)] at hq
  by_cases hl : i + 1 = qs.length
  ·obtain ⟨p, c, h5, h6⟩ := h4 i q hq hl
   rw [h5]; exact h6.os (i := 0) hH rfl
  ·exact h3 i q hq (by omega) w' hH.2.2.2
 ·simp at hi
  subst hi
  simp at hq
  subst hq
  exact ⟨none, 0, rfl, Own.nil⟩
theorem setL_flat {qs : List (ByteArray × Value × List α)} {k : ByteArray} {u u' : Value} {l l' : List α} {ex : List Value} : setL ((qs ++ [(k, u, l)]).flatMap cK ++ ex) (qs.length * 2 + 1) [u'] = (qs ++ [(k, u', l')]).flatMap cK ++ ex := by
 have hl : (qs.flatMap (cK (α := α))).length = qs.length * 2 := flatMap_len (sz := 2) (fun _ => rfl) _
 simp only [List.flatMap_append, List.flatMap_singleton, setL]
 rw [List.append_assoc, List.set_append_right _ _ (by omega), hl, show qs.length * 2 + 1 - qs.length * 2 = 1 by omega, List.append_assoc]
 rfl
/-- the last key's row, which may grow -/
theorem Sd.last {g0 : List (ByteArray × List α)} {key : ByteArray} {l : List α} (h : Sd f T T2 enc R y z v (g0 ++ [(key, l)])) : ∃ yb ycs p2 c2 c, y = ⟨yb, T, ycs, true, true, none⟩ ∧ v = .slice (some ⟨yb, 0, none⟩) (g0.length + 1) c ∧ ycs[0 + g0.length * 2 + 1]? = some (.slice p2 l.length c2) ∧ Own T2 1 z p2 l.length c2 (l.map enc) ∧
  (∀ z' p3 c3 a, Own T2 1 z' p3 (l.length + 1) c3 (l.map enc ++ [enc a]) → Sd f T T2 enc R ⟨yb, T, setL ycs (0 + g0.length * 2 + 1) [.slice p3 (l.length + 1) c3], true, true, none⟩ z' v (g0 ++ [(key, l ++ [a])])) ∧ 0 + g0.length * 2 + 1 + 1 ≤ ycs.length := by
 obtain ⟨qs, h1, ⟨p, c, rfl, h2⟩, h3, h4⟩ := h.ex
 have hql : qs.length = g0.length + 1 := by have := congrArg List.length h1; simpa using this
 obtain ⟨qs0, q, rfl⟩ : ∃ a b, qs = a ++ [b] := by
  have hne : qs ≠ [] := by intro e; subst e; simp at hql
  exact ⟨_, _, (List.dropLast_concat_getLast hne).symm⟩
 have hq0 : qs0.length = g0.length := by simpa using hql
 obtain ⟨k', u, l'⟩ := q
 rw [List.map_append] at h1
 obtain ⟨hg0, hk⟩ := List.append_inj h1 (by simpa using hq0)
 simp at hk
 obtain ⟨rfl, rfl⟩ := hk
 obtain ⟨p2, c2, hu, hz⟩ := h4 qs0.length (k', u, l') (by simp) (by simp)
 simp only at hu hz
 subst hu
 obtain ⟨yb, yT, ycs, yw, yon, yob⟩ := y
 obtain ⟨e1, e2, e3, s1, s2, s3⟩ := h2
 simp only at e1 e2 e3 s3
 subst e1; subst e2; subst e3
 have hgl : (g0 ++ [(k', l')]).length = g0.length + 1 := by simp
 rcases s3 with ⟨h5, h6, ⟨ex, h7⟩, h8⟩ | ⟨h5, h6, h7⟩
 ·subst h5; subst h6; subst h7
  have hfl : ((qs0 ++ [(k', Value.slice p2 l'.length c2, l')]).flatMap (cK (α := α))).length = (qs0.length + 1) * 2 := by
   rw [flatMap_len (sz := 2) (fun _ => rfl)]; simp
  have h0 : (qs0.flatMap (cK (α := α))).length = qs0.length * 2 := flatMap_len (sz := 2) (fun _ => rfl) _
  refine ⟨yb, _, p2, c2, c, rfl, by rw [hgl], ?_, hz, fun z' p3 c3 a hz' => ?_, by rw [List.length_append, hfl, hq0]; omega⟩
  ·rw [List.getElem?_append_left (by rw [hfl]; omega), List.flatMap_append, List.getElem?_append_right (by omega), h0, ← hq0, show 0 + qs0.length * 2 + 1 - qs0.length * 2 = 1 by omega]
   rfl
  ·refine ⟨qs0 ++ [(k', .slice p3 (l'.length + 1) c3, l' ++ [a])], by simp [hg0], ⟨_, c, by simp, rfl, rfl, rfl, by rw [flatMap_len (sz := 2) (fun _ => rfl)]; simp [hq0], by simpa using s2, .inl ⟨rfl, rfl, ⟨ex, ?_⟩, by rw [setL_length]; simpa using h8⟩⟩, fun i q hq hi w' hH => ?_, fun i q hq hi => ?_⟩
   ·rw [Nat.zero_add, ← hq0]; exact setL_flat
   ·simp at hi
    rw [List.getElem?_append_left hi] at hq
    exact h3 i q (by rw [List.getElem?_append_left hi]; exact hq) (by simp; omega) w' hH
   ·simp at hi
    subst hi
    simp at hq
    subst hq
    exact ⟨p3, c3, by simp, by simpa using hz'⟩
 ·have := s2; rw [h7, hgl] at this; omega
end
end Go.Fw
