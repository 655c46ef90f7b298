/-
  Plain profiles, as they lie in memory when the call begins. Conditions: none.
-/
import Derived.Test.YtifnhinopjgfaaaGreatFwJ
namespace Go.Fw
open Go

structure PType where (ty unit : ByteArray)
deriving DecidableEq
structure PTexts where (key : ByteArray) (list : List ByteArray)
structure PNums where (key : ByteArray) (list : List Int)
structure PSample where (stack : List Int) (values : List Int) (texts : List PTexts) (nums : List PNums)
structure PMapping where (id start limit offset : Int) (file build : ByteArray) (fu fi li inl : Bool)
structure PLine where (fn line : Int)
structure PLoc where (id mapping addr : Int) (lines : List PLine)
structure PFunc where (id : Int) (name system file : ByteArray) (start : Int)
structure PProf where
 (types : List PType) (deflt : ByteArray) (samples : List PSample) (mappings : List PMapping) (locs : List PLoc) (funcs : List PFunc)
 (comments : List ByteArray) (drop keep : ByteArray) (time dur period : Int) (per : PType)

/-- every block of w is so in w' -/
def Keep (w w' : World) : Prop := ∀ (b : Nat) (o : Obj), w.heap[b]? = some o → w'.heap[b]? = some o
theorem Keep.refl (w : World) : Keep w w := fun _ _ h => h
theorem Keep.trans {a b c : World} (h : Keep a b) (k : Keep b c) : Keep a c := fun x o hx => k x o (h x o hx)
theorem Fr.keepAll {B : Nat} {W : List Nat} {w w' : World} (h : Fr B W w w') (hc : w.heap.size ≤ B ∨ W = []) : Keep w w' := fun b o hb => h.keep b o hb (by
 rcases hc with hc | hc
 ·left; have := (Array.getElem?_eq_some_iff.1 hb).1; omega
 ·right; subst hc; simp)
theorem Keep.cell {w w' : World} (h : Keep w w') {a : Addr} {v : Value} (hv : w.cell? a = some v) : w'.cell? a = some v := by
 unfold World.cell? at hv ⊢
 cases hb : w.heap[a.block]? with
 | none => simp [hb] at hv
 | some o => rw [hb] at hv; rw [h _ _ hb]; exact hv

/-- a slice of l elements of sz cells each, whose cells are cs -/
structure SlV (w : World) (sz : Nat) (v : Value) (l : Nat) (cs : List Value) : Prop where
 ex : ∃ p c, v = .slice p l c ∧ l ≤ c ∧ (l = 0 ∨ ∃ b o, p = some ⟨b, o, none⟩ ∧ ∀ (j : Nat) (u : Value), cs[j]? = some u → w.cell? ⟨b, o + j, none⟩ = some u)
 len : cs.length = l * sz
 small : l ≤ 9223372036854775807
theorem SlV.keep {w w' : World} {sz l : Nat} {v : Value} {cs : List Value} (h : SlV w sz v l cs) (k : Keep w w') : SlV w' sz v l cs := by
 obtain ⟨⟨p, c, h1, hc, h2⟩, h3, h4⟩ := h
 refine ⟨⟨p, c, h1, hc, ?_⟩, h3, h4⟩
 rcases h2 with h2 | ⟨b, o, h5, h6⟩
 ·exact .inl h2
 ·exact .inr ⟨b, o, h5, fun j u hj => k.cell (h6 j u hj)⟩

/-- a list laid in a slice: each element's cells by 'R' -/
def Lay {α : Type} (R : World → List Value → α → Prop) (sz : Nat) (w : World) (v : Value) (xs : List α) : Prop :=
 ∃ cs : List (List Value), SlV w sz v xs.length cs.flatten ∧ cs.length = xs.length ∧ (∀ c ∈ cs, c.length = sz) ∧ ∀ (i : Nat) (c : List Value) (x : α), cs[i]? = some c → xs[i]? = some x → R w c x

def RStr (_ : World) (c : List Value) (x : ByteArray) : Prop := c = [.string x]
def RInt (kd : IntKind) (_ : World) (c : List Value) (x : Int) : Prop := c = [.int kd x] ∧ kd.wrap x = x
def RType (_ : World) (c : List Value) (x : PType) : Prop := c = [.string x.ty, .string x.unit]
def RTexts (w : World) (c : List Value) (x : PTexts) : Prop := ∃ l, c = [.string x.key, l] ∧ Lay RStr 1 w l x.list
def RNums (w : World) (c : List Value) (x : PNums) : Prop := ∃ l, c = [.string x.key, l] ∧ Lay (RInt .i64) 1 w l x.list
def RSample (w : World) (c : List Value) (x : PSample) : Prop := ∃ a b t u, c = [a, b, t, u] ∧ Lay (RInt .i64) 1 w a x.stack ∧ Lay (RInt .i64) 1 w b x.values ∧ Lay RTexts 2 w t x.texts ∧ Lay RNums 2 w u x.nums
def RMapping (_ : World) (c : List Value) (x : PMapping) : Prop :=
 c = [.int .u64 x.id, .int .u64 x.start, .int .u64 x.limit, .int .u64 x.offset, .string x.file, .string x.build, .bool x.fu, .bool x.fi, .bool x.li, .bool x.inl] ∧
  IntKind.u64.wrap x.id = x.id ∧ IntKind.u64.wrap x.start = x.start ∧ IntKind.u64.wrap x.limit = x.limit ∧ IntKind.u64.wrap x.offset = x.offset
def RLine (_ : World) (c : List Value) (x : PLine) : Prop := c = [.int .i64 x.fn, .int .i64 x.line] ∧ IntKind.i64.wrap x.fn = x.fn ∧ IntKind.i64.wrap x.line = x.line
def RLoc (w : World) (c : List Value) (x : PLoc) : Prop := ∃ l, c = [.int .u64 x.id, .int .i64 x.mapping, .int .u64 x.addr, l] ∧ IntKind.u64.wrap x.id = x.id ∧ IntKind.i64.wrap x.mapping = x.mapping ∧ IntKind.u64.wrap x.addr = x.addr ∧ Lay RLine 2 w l x.lines
def RFunc (_ : World) (c : List Value) (x : PFunc) : Prop := c = [.int .u64 x.id, .string x.name, .string x.system, .string x.file, .int .i64 x.start] ∧ IntKind.u64.wrap x.id = x.id ∧ IntKind.i64.wrap x.start = x.start
def RProf (w : World) (c : List Value) (x : PProf) : Prop := ∃ a s m l f cm, c = [a, .string x.deflt, s, m, l, f, cm, .string x.drop, .string x.keep, .int .i64 x.time, .int .i64 x.dur, .int .i64 x.period, .string x.per.ty, .string x.per.unit] ∧
 Lay RType 2 w a x.types ∧ Lay RSample 4 w s x.samples ∧ Lay RMapping 10 w m x.mappings ∧ Lay RLoc 4 w l x.locs ∧ Lay RFunc 5 w f x.funcs ∧ Lay RStr 1 w cm x.comments ∧
 IntKind.i64.wrap x.time = x.time ∧ IntKind.i64.wrap x.dur = x.dur ∧ IntKind.i64.wrap x.period = x.period

theorem Lay.keep {α : Type} {R : World → List Value → α → Prop} {sz : Nat} {w w' : World} {v : Value} {xs : List α} (hR : ∀ c x, R w c x → R w' c x) (h : Lay R sz w v xs) (k : Keep w w') : Lay R sz w' v xs := by
 obtain ⟨cs, h1, h2, h3, h4⟩ := h
 exact ⟨cs, h1.keep k, h2, h3, fun i c x hc hx => hR _ _ (h4 i c x hc hx)⟩
theorem RStr.keep {w w' : World} (_ : Keep w w') (c : List Value) (x : ByteArray) (h : RStr w c x) : RStr w' c x := h
theorem RInt.keep {kd : IntKind} {w w' : World} (_ : Keep w w') (c : List Value) (x : Int) (h : RInt kd w c x) : RInt kd w' c x := h
theorem RType.keep {w w' : World} (_ : Keep w w') (c : List Value) (x : PType) (h : RType w c x) : RType w' c x := h
theorem RMapping.keep {w w' : World} (_ : Keep w w') (c : List Value) (x : PMapping) (h : RMapping w c x) : RMapping w' c x := h
theorem RLine.keep {w w' : World} (_ : Keep w w') (c : List Value) (x : PLine) (h : RLine w c x) : RLine w' c x := h
theorem RFunc.keep {w w' : World} (_ : Keep w w') (c : List Value) (x : PFunc) (h : RFunc w c x) : RFunc w' c x := h
theorem RTexts.keep {w w' : World} (k : Keep w w') (c : List Value) (x : PTexts) (h : RTexts w c x) : RTexts w' c x := by
 obtain ⟨l, h1, h2⟩ := h
 exact ⟨l, h1, h2.keep (RStr.keep k) k⟩
theorem RNums.keep {w w' : World} (k : Keep w w') (c : List Value) (x : PNums) (h : RNums w c x) : RNums w' c x := by
 obtain ⟨l, h1, h2⟩ := h
 exact ⟨l, h1, h2.keep (RInt.keep k) k⟩
theorem RSample.keep {w w' : World} (k : Keep w w') (c : List Value) (x : PSample) (h : RSample w c x) : RSample w' c x := by
 obtain ⟨a, b, t, u, h1, h2, h3, h4, h5⟩ := h
 exact ⟨a, b, t, u, h1, h2.keep (RInt.keep k) k, h3.keep (RInt.keep k) k, h4.keep (RTexts.keep k) k, h5.keep (RNums.keep k) k⟩
theorem RLoc.keep {w w' : World} (k : Keep w w') (c : List Value) (x : PLoc) (h : RLoc w c x) : RLoc w' c x := by
 obtain ⟨l, h1, h2, h3, h4, h5⟩ := h
 exact ⟨l, h1, h2, h3, h4, h5.keep (RLine.keep k) k⟩
theorem RProf.keep {w w' : World} (k : Keep w w') (c : List Value) (x : PProf) (h : RProf w c x) : RProf w' c x := by
 obtain ⟨a, s, m, l, f, cm, h1, h2, h3, h4, h5, h6, h7, h8⟩ := h
 exact ⟨a, s, m, l, f, cm, h1, h2.keep (RType.keep k) k, h3.keep (RSample.keep k) k, h4.keep (RMapping.keep k) k, h5.keep (RLoc.keep k) k, h6.keep (RFunc.keep k) k, h7.keep (RStr.keep k) k, h8⟩

theorem flat_get {sz : Nat} : ∀ (cs : List (List Value)), (∀ c ∈ cs, c.length = sz) → ∀ (i : Nat) (c : List Value), cs[i]? = some c → ∀ (j : Nat) (u : Value), c[j]? = some u → cs.flatten[i * sz + j]? = some u
 | [], _, i, c, h => by simp at h
 | a :: cs, hl, 0, c, h => by
  intro j u hj
  simp at h
  subst h
  have := (List.getElem?_eq_some_iff.1 hj).1
  simp only [List.flatten_cons, Nat.zero_mul, Nat.zero_add]
  rw [List.getElem?_append_left this]
  exact hj
 | a :: cs, hl, i + 1, c, h => by
  intro j u hj
  simp at h
  have ha := hl a (by simp)
  simp only [List.flatten_cons]
  rw [List.getElem?_append_right (by rw [ha, Nat.succ_mul]; omega), ha, Nat.succ_mul, show i * sz + sz + j - sz = i * sz + j by omega]
  exact flat_get cs (fun c hc => hl c (by simp [hc])) i c h j u hj

/-- what a round of a loop over a laid list needs: the slice's parts, and each element's cells -/
theorem Lay.open {α : Type} {R : World → List Value → α → Prop} {sz : Nat} {w : World} {v : Value} {xs : List α} (h : Lay R sz w v xs) :
  ∃ p c, v = .slice p xs.length c ∧ xs.length ≤ 9223372036854775807 ∧ ∀ (i : Nat) (x : α), xs[i]? = some x → ∃ b o cs, p = some ⟨b, o, none⟩ ∧ cs.length = sz ∧ R w cs x ∧ ∀ w', Keep w w' → ∀ (j : Nat) (u : Value), cs[j]? = some u → w'.cell? ⟨b, o + i * sz + j, none⟩ = some u := by
 obtain ⟨cs, ⟨⟨p, c, h1, _, h2⟩, h3, h4⟩, h5, h6, h7⟩ := h
 refine ⟨p, c, h1, h4, ?_⟩
 intro i x hx
 have hi := (List.getElem?_eq_some_iff.1 hx).1
 rcases h2 with h2 | ⟨b, o, hp, hc⟩
 ·omega
 ·have hci : cs[i]? = some cs[i] := List.getElem?_eq_getElem (by omega)
  refine ⟨b, o, cs[i], hp, h6 _ (List.mem_of_getElem? hci), h7 i _ x hci hx, ?_⟩
  intro w' k j u hj
  have := hc (i * sz + j) u (flat_get cs h6 i _ hci j u hj)
  rw [Nat.add_assoc]
  exact k.cell this
/-- what holds of each element -/
theorem Lay.each {α : Type} {R : World → List Value → α → Prop} {sz : Nat} {w : World} {v : Value} {xs : List α} {φ : α → Prop} (h : Lay R sz w v xs) (hR : ∀ c x, R w c x → φ x) : ∀ x ∈ xs, φ x := by
 intro x hx
 obtain ⟨i, hi⟩ := List.mem_iff_getElem?.1 hx
 obtain ⟨_, _, _, ho⟩ := h.open
 obtain ⟨_, _, cs, _, _, hr, _⟩ := ho.2 i x hi
 exact hR _ _ hr
theorem Lay.cap {α : Type} {R : World → List Value → α → Prop} {sz : Nat} {w : World} {p : Option Addr} {l c : Nat} {xs : List α} (h : Lay R sz w (.slice p l c) xs) : xs.length ≤ c := by
 obtain ⟨cs, ⟨⟨p, c, h1, hc, h2⟩, h3, h4⟩, h5, h6, h7⟩ := h
 cases h1
 exact hc
/-- the first i of a laid list -/
theorem Lay.take {α : Type} {R : World → List Value → α → Prop} {sz : Nat} {w : World} {p : Option Addr} {l c : Nat} {xs : List α} (h : Lay R sz w (.slice p l c) xs) (i : Nat) (hi : i ≤ xs.length) : Lay R sz w (.slice p i c) (xs.take i) := by
 obtain ⟨cs, ⟨⟨p, c, h1, hc, h2⟩, h3, h4⟩, h5, h6, h7⟩ := h
 cases h1
 have hlen : (xs.take i).length = i := by simp; omega
 have hfl : (cs.take i).flatten.length = i * sz := by
  rw [List.length_flatten]
  have : (cs.take i).map List.length = List.replicate i sz := by
   apply List.eq_replicate_iff.2
   refine ⟨by simp; omega, ?_⟩
   intro b hb
   obtain ⟨c', hc', rfl⟩ := List.mem_map.1 hb
   exact h6 _ (List.mem_of_mem_take hc')
  rw [this]; simp
 refine ⟨cs.take i, ⟨⟨p, c, by rw [hlen], by rw [hlen]; omega, ?_⟩, by rw [hlen]; exact hfl, by rw [hlen]; omega⟩, by simp; omega, fun c hc => h6 _ (List.mem_of_mem_take hc), ?_⟩
 ·rw [hlen]
  by_cases h0 : i = 0
  ·exact .inl h0
  ·right
   rcases h2 with h2 | ⟨b, o, hp, hcell⟩
   ·omega
   ·refine ⟨b, o, hp, fun j u hj => hcell j u ?_⟩
    have hpre : (cs.take i).flatten <+: cs.flatten := by
     conv => rhs; rw [← List.take_append_drop i cs, List.flatten_append]
     exact List.prefix_append _ _
    have hj' := (List.getElem?_eq_some_iff.1 hj).1
    obtain ⟨t, ht⟩ := hpre
    rw [← ht, List.getElem?_append_left hj']
    exact hj
 ·intro j c' x hc hx
  rw [List.getElem?_take] at hc hx
  split at hc
  ·rename_i hlt
   rw [if_pos hlt] at hx
   exact h7 j c' x hc hx
  ·cases hc
theorem flat1 {α β : Type} (g : α → β) : ∀ xs : List α, (xs.map fun x => [g x]).flatten = xs.map g
 | [] => rfl
 | x :: r => by simp [flat1 g r]
/-- an owned slice of one-cell elements, as a laid list -/
theorem Own.lay {α : Type} {R : World → List Value → α → Prop} {T : Nat} {y : Ent} {p : Option Addr} {l c : Nat} {g : α → Value} {xs : List α} {f : Fm} {w : World} {H : Heap} {i : Nat} (h : Own T 1 y p l c (xs.map g)) (hH : Hp f w H) (hy : H[i]? = some y) (hl : l ≤ 9223372036854775807)
  (hR : ∀ x ∈ xs, R w [g x] x) : Lay R 1 w (.slice p l c) xs := by
 obtain ⟨-, -, -, h1, h2, h3⟩ := h
 have hlx : xs.length = l := by simpa using h1
 subst hlx
 refine ⟨xs.map fun x => [g x], ⟨⟨p, c, rfl, h2, ?_⟩, by rw [flat1]; simp, hl⟩, by simp, by simp, ?_⟩
 ·rcases h3 with ⟨h4, rfl, ⟨ex, h6⟩, -⟩ | ⟨h4, rfl, rfl⟩
  ·refine .inr ⟨y.b, 0, rfl, fun j u hj => ?_⟩
   have hb := hH.get hy h4
   rw [Nat.zero_add, hb.cell, h6]
   rw [flat1] at hj
   rw [List.getElem?_append_left (List.getElem?_eq_some_iff.1 hj).1]
   exact hj
  ·exact .inl (by omega)
 ·intro j cc x hc hx
  rw [List.getElem?_map, hx] at hc
  simp at hc
  subst hc
  exact hR x (List.mem_of_getElem? hx)
end Go.Fw
