/-
  A profile of the package, as impl.of lays it in memory. Conditions: none.
-/
import Derived.Test.YtifnhinopjgfaaaGreatTy
import Derived.Test.YtifnhinopjgfaaaGreatFwK
import Derived.KernelRfl
namespace Go.Proofs.YtifnhinopjgfaaaGreat
open Go Go.Fw Go.Proofs Go.Proofs.Tryz
abbrev tProf : Nat := 121
abbrev tVT : Nat := 159
abbrev tMap : Nat := 124
abbrev tFun : Nat := 127
abbrev tLoc : Nat := 131
abbrev tLine : Nat := 133
abbrev tSam : Nat := 139
abbrev pVT : Nat := 113
abbrev pMap : Nat := 122
abbrev pFun : Nat := 125
abbrev pLoc : Nat := 128
abbrev pSam : Nat := 134
abbrev tStr : Nat := 9
abbrev tI64 : Nat := 2
abbrev ptr (b : Nat) : Value := .pointer (some ⟨b, 0, none⟩)
/-- the pointer to the i-th of blocks, none where i is below 0 -/
def ptrAt (bs : List Nat) (i : Int) : Value := .pointer (if 0 ≤ i then (bs[i.toNat]?).map fun b => ⟨b, 0, none⟩ else none)
def cVT (t : PType) : List Value := [.string t.ty, .string t.unit, .int .i64 0, .int .i64 0]
def cMap (m : PMapping) : List Value := [.int .u64 m.id, .int .u64 m.start, .int .u64 m.limit, .int .u64 m.offset, .string m.file, .string m.build, .bool m.fu, .bool m.fi, .bool m.li, .bool m.inl, .int .i64 0, .int .i64 0]
def cFun (f : PFunc) : List Value := [.int .u64 f.id, .string f.name, .string f.system, .string f.file, .int .i64 f.start, .int .i64 0, .int .i64 0, .int .i64 0]
def cLine (funs : List Nat) (n : PLine) : List Value := [ptrAt funs n.fn, .int .i64 n.line, .int .u64 0]
def cLoc (maps : List Nat) (l : PLoc) (ls : Value) : List Value := [.int .u64 l.id, ptrAt maps l.mapping, .int .u64 l.addr, ls, .bool false, .int .u64 0]
def cSam (ls vs lm nm : Value) : List Value := [ls, vs, lm, nm, .map none, .slice none 0 0, .slice none 0 0]
def cProf (x : PProf) (ty sa ma lo fu co : Value) (per : Nat) : List Value :=
 [ty, .string x.deflt, sa, ma, lo, fu, co, .string x.drop, .string x.keep, .int .i64 x.time, .int .i64 x.dur, ptr per, .int .i64 x.period, .slice none 0 0, .int .i64 0, .int .i64 0, .slice none 0 0, .int .i64 0]
/-- labels in memory: none, or a map from keys to slices of their texts (numbers) -/
def LabM (T : Nat) (w : World) (v : Value) (ks : List (ByteArray × List Value)) : Prop :=
 (ks = [] ∧ v = .map none) ∨ ∃ b es ck ms, v = .map (some b) ∧ w.heap[b]? = some (.map (List.toArray es) ck) ∧ MEnc Value.string ms es ck ∧ ms.map (·.1) = ks.map (·.1) ∧ ∀ (i : Nat) m k, ms[i]? = some m → ks[i]? = some k → OS T 1 w m.2 k.2
def labT (s : PSample) : List (ByteArray × List Value) := s.texts.map fun t => (t.key, t.list.map .string)
def labN (s : PSample) : List (ByteArray × List Value) := s.nums.map fun t => (t.key, t.list.map (.int .i64))

structure G where (pb per : Nat) (types maps funs locs sams : List Nat)
structure SamP (w : World) (locs : List Nat) (b : Nat) (s : PSample) : Prop where
 ex : ∃ ls vs lm nm, Blk w b tSam (cSam ls vs lm nm) ∧ OS pLoc 1 w ls (s.stack.map (ptrAt locs)) ∧ OS tI64 1 w vs (s.values.map (.int .i64)) ∧ LabM tStr w lm (labT s) ∧ LabM tI64 w nm (labN s)
structure LocP (w : World) (maps funs : List Nat) (b : Nat) (l : PLoc) : Prop where
 ex : ∃ ls, Blk w b tLoc (cLoc maps l ls) ∧ OS tLine 3 w ls (l.lines.flatMap (cLine funs))
/-- a location's row of lines is no older than B -/
def RowGe (B : Nat) (w : World) (b : Nat) : Prop := ∃ cs, Blk w b tLoc cs ∧ ∀ rb n c, cs[3]? = some (.slice (some ⟨rb, 0, none⟩) n c) → B ≤ rb
theorem RowGe.mono {B : Nat} {w w' : World} {b : Nat} (h : RowGe B w b) (k : ∀ b cs, Blk w b tLoc cs → Blk w' b tLoc cs) : RowGe B w' b := by
 obtain ⟨cs, h1, h2⟩ := h
 exact ⟨cs, k _ _ h1, h2⟩
/-- each of blocks is such a part -/
def Each {α : Type} (bs : List Nat) (xs : List α) (φ : Nat → α → Prop) : Prop := bs.length = xs.length ∧ ∀ (i : Nat) b x, bs[i]? = some b → xs[i]? = some x → φ b x
structure OfP (B : Nat) (w : World) (x : PProf) (g : G) : Prop where
 prof : ∃ ty sa ma lo fu co, Blk w g.pb tProf (cProf x ty sa ma lo fu co g.per) ∧ OS pVT 1 w ty (g.types.map ptr) ∧ OS pSam 1 w sa (g.sams.map ptr) ∧ OS pMap 1 w ma (g.maps.map ptr) ∧ OS pLoc 1 w lo (g.locs.map ptr) ∧ OS pFun 1 w fu (g.funs.map ptr) ∧ OS tStr 1 w co (x.comments.map .string)
 per : Blk w g.per tVT (cVT x.per)
 types : Each g.types x.types fun b t => Blk w b tVT (cVT t)
 maps : Each g.maps x.mappings fun b m => Blk w b tMap (cMap m)
 funs : Each g.funs x.funcs fun b f => Blk w b tFun (cFun f)
 locs : Each g.locs x.locs (LocP w g.maps g.funs)
 sams : Each g.sams x.samples (SamP w g.locs)
 ntypes : (g.per :: g.types).Nodup
 nmaps : g.maps.Nodup
 nfuns : g.funs.Nodup
 nlocs : g.locs.Nodup
 nsams : g.sams.Nodup
 fresh : B ≤ g.pb ∧ B ≤ g.per ∧ (∀ b ∈ g.types, B ≤ b) ∧ (∀ b ∈ g.maps, B ≤ b) ∧ (∀ b ∈ g.funs, B ≤ b) ∧ (∀ b ∈ g.locs, B ≤ b) ∧ ∀ b ∈ g.sams, B ≤ b
 rows : ∀ b ∈ g.locs, RowGe B w b

theorem Each.nil {α : Type} {φ : Nat → α → Prop} : Each [] ([] : List α) φ := ⟨rfl, by simp⟩
theorem Each.mono {α : Type} {bs : List Nat} {xs : List α} {φ ψ : Nat → α → Prop} (h : Each bs xs φ) (hk : ∀ b x, φ b x → ψ b x) : Each bs xs ψ := ⟨h.1, fun i b x hb hx => hk b x (h.2 i b x hb hx)⟩
theorem Each.all {α : Type} {bs : List Nat} {xs : List α} {φ : Nat → Prop} (h : Each bs xs fun b _ => φ b) : ∀ b ∈ bs, φ b := by
 intro b hb
 obtain ⟨i, hi⟩ := List.mem_iff_getElem?.1 hb
 have hl := (List.getElem?_eq_some_iff.1 hi).1
 exact h.2 i b _ hi (List.getElem?_eq_getElem (by have := h.1; omega))
theorem Each.push {α : Type} {bs : List Nat} {xs : List α} {φ : Nat → α → Prop} {k b : Nat} (hk : k < xs.length) (h : Each bs (xs.take k) φ) (hb : φ b xs[k]) : Each (bs ++ [b]) (xs.take (k + 1)) φ := by
 have hl : bs.length = k := by have := h.1; simp at this; omega
 refine ⟨by simp; omega, fun i b' x hb' hx => ?_⟩
 rw [← List.take_append_getElem hk] at hx
 by_cases hi : i < k
 ·rw [List.getElem?_append_left (by omega)] at hb'
  rw [List.getElem?_append_left (by simp; omega)] at hx
  exact h.2 i b' x hb' hx
 ·have hlt := (List.getElem?_eq_some_iff.1 hb').1
  simp at hlt
  have : i = k := by omega
  subst this
  rw [List.getElem?_append_right (by omega)] at hb'
  rw [List.getElem?_append_right (by simp; omega)] at hx
  simp [hl] at hb'
  have hmin : min i xs.length = i := by omega
  simp [hmin] at hx
  subst hb'; subst hx
  exact hb
theorem Each.lt {α : Type} {w : World} {bs : List Nat} {xs : List α} {T : Nat} {c : α → List Value} (h : Each bs xs fun b x => Blk w b T (c x)) : ∀ b ∈ bs, b < w.heap.size := by
 intro b hb
 obtain ⟨i, hi⟩ := List.mem_iff_getElem?.1 hb
 have hl := (List.getElem?_eq_some_iff.1 hi).1
 exact (h.2 i b _ hi (List.getElem?_eq_getElem (by have := h.1; omega))).lt
theorem nodup_push {bs : List Nat} {b n : Nat} (h : bs.Nodup) (hl : ∀ c ∈ bs, c < n) (hb : n ≤ b) : (bs ++ [b]).Nodup := by
 rw [List.nodup_append]
 exact ⟨h, by simp, by simp; intro a ha he; have := hl a ha; omega⟩
theorem ptrs_push (bs : List Nat) (b : Nat) : bs.map ptr ++ [ptr b] = (bs ++ [b]).map ptr := by simp
/-- the parts that this seat's walks make, one by one: what is known of them while the rest is made -/
structure Part (B : Nat) (w : World) (bs : List Nat) {α : Type} (xs : List α) (φ : World → Nat → α → Prop) : Prop where
 each : Each bs xs (φ w)
 nodup : bs.Nodup
 ge : ∀ b ∈ bs, B ≤ b
 lt : ∀ b ∈ bs, b < w.heap.size
theorem Part.nil {B : Nat} {w : World} {α : Type} {φ : World → Nat → α → Prop} {xs : List α} : Part B w [] (xs.take 0) φ := ⟨⟨by simp, by simp⟩, by simp, by simp, by simp⟩
theorem Part.mono {B : Nat} {w w' : World} {bs : List Nat} {α : Type} {xs : List α} {φ : World → Nat → α → Prop} (h : Part B w bs xs φ) (hs : w.heap.size ≤ w'.heap.size) (hk : ∀ b x, φ w b x → φ w' b x) : Part B w' bs xs φ :=
 ⟨h.each.mono hk, h.nodup, h.ge, fun b hb => Nat.lt_of_lt_of_le (h.lt b hb) hs⟩
theorem Part.push {B : Nat} {w w' : World} {bs : List Nat} {α : Type} {xs : List α} {φ : World → Nat → α → Prop} {k b : Nat} (hk : k < xs.length) (h : Part B w bs (xs.take k) φ) (hs : w.heap.size ≤ w'.heap.size) (hkeep : ∀ b x, φ w b x → φ w' b x) (hb : φ w' b xs[k]) (hge : w.heap.size ≤ b) (hB : B ≤ w.heap.size) (hlt : b < w'.heap.size) :
  Part B w' (bs ++ [b]) (xs.take (k + 1)) φ :=
 ⟨(h.each.mono hkeep).push hk hb, nodup_push h.nodup h.lt hge, fun c hc => by
  rcases List.mem_append.1 hc with hc | hc
  ·exact h.ge c hc
  ·simp at hc; omega, fun c hc => by
  rcases List.mem_append.1 hc with hc | hc
  ·exact Nat.lt_of_lt_of_le (h.lt c hc) hs
  ·simp at hc; omega⟩
theorem Part.full {B : Nat} {w : World} {bs : List Nat} {α : Type} {xs : List α} {φ : World → Nat → α → Prop} {k : Nat} (h : Part B w bs (xs.take k) φ) (hk : xs.length ≤ k) : Part B w bs xs φ := by
 rw [List.take_of_length_le hk] at h; exact h
def φT (w : World) (b : Nat) (t : PType) : Prop := Blk w b tVT (cVT t)
def φM (w : World) (b : Nat) (t : PMapping) : Prop := Blk w b tMap (cMap t)
def φF (w : World) (b : Nat) (t : PFunc) : Prop := Blk w b tFun (cFun t)
theorem ptrAt_neg {bs : List Nat} {z : Int} (h : ¬ 0 ≤ z) : ptrAt bs z = .pointer none := by simp [ptrAt, h]
theorem ptrAt_pos {bs : List Nat} {z : Int} (h : 0 ≤ z) (hl : z.toNat < bs.length) : (bs.map ptr)[z.toNat]? = some (ptrAt bs z) := by simp [ptrAt, h, hl]
theorem LocP.mono {w w' : World} {maps funs : List Nat} {b : Nat} {l : PLoc} (h : LocP w maps funs b l) (k1 : ∀ b cs, Blk w b tLoc cs → Blk w' b tLoc cs) (k2 : ∀ b cs, Blk w b tLine cs → Blk w' b tLine cs) : LocP w' maps funs b l := by
 obtain ⟨ls, h1, h2⟩ := h.ex
 exact ⟨ls, k1 _ _ h1, h2.mono k2⟩
theorem LabM.mono {T : Nat} {w w' : World} {v : Value} {ks : List (ByteArray × List Value)} (h : LabM T w v ks) (k1 : ∀ b cs, Blk w b T cs → Blk w' b T cs) (k2 : ∀ (b : Nat) es ck, w.heap[b]? = some (.map es ck) → w'.heap[b]? = some (.map es ck)) : LabM T w' v ks := by
 rcases h with h | ⟨b, es, ck, ms, h1, h2, h3, h4, h5⟩
 ·exact .inl h
 ·exact .inr ⟨b, es, ck, ms, h1, k2 _ _ _ h2, h3, h4, fun i m q hm hq => (h5 i m q hm hq).mono k1⟩
theorem SamP.mono {w w' : World} {locs : List Nat} {b : Nat} {s : PSample} (h : SamP w locs b s) (k1 : ∀ b cs, Blk w b tSam cs → Blk w' b tSam cs) (k2 : ∀ b cs, Blk w b pLoc cs → Blk w' b pLoc cs) (k3 : ∀ b cs, Blk w b tI64 cs → Blk w' b tI64 cs) (k4 : ∀ b cs, Blk w b tStr cs → Blk w' b tStr cs)
  (k5 : ∀ (b : Nat) es ck, w.heap[b]? = some (.map es ck) → w'.heap[b]? = some (.map es ck)) : SamP w' locs b s := by
 obtain ⟨ls, vs, lm, nm, h1, h2, h3, h4, h5⟩ := h.ex
 exact ⟨ls, vs, lm, nm, k1 _ _ h1, h2.mono k2, h3.mono k3, h4.mono k4 k5, h5.mono k3 k5⟩
end Go.Proofs.YtifnhinopjgfaaaGreat
