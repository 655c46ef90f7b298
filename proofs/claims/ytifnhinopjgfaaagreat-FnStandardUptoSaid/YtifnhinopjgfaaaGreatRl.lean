/-
  What is written of a profile, part by part, and how long it may be. Conditions: as each lemma states them.
-/
import Derived.Test.YtifnhinopjgfaaaGreatPz
namespace Go.Proofs.YtifnhinopjgfaaaGreat
open Go Go.Fw Go.Proofs Go.Proofs.Tryz
theorem u64_range {z : Int} (h : IntKind.u64.wrap z = z) : 0 ≤ z ∧ z < 18446744073709551616 := by
 simp [IntKind.wrap, IntKind.bits, IntKind.signed] at h; omega
/-- numbers that fit -/
structure Rng (x : PProf) : Prop where
 time : IntKind.i64.wrap x.time = x.time
 dur : IntKind.i64.wrap x.dur = x.dur
 period : IntKind.i64.wrap x.period = x.period
 vals : ∀ s ∈ x.samples, ∀ z ∈ s.values, IntKind.i64.wrap z = z
 nums : ∀ s ∈ x.samples, ∀ t ∈ s.nums, ∀ z ∈ t.list, IntKind.i64.wrap z = z
 maps : ∀ m ∈ x.mappings, IntKind.u64.wrap m.id = m.id ∧ IntKind.u64.wrap m.start = m.start ∧ IntKind.u64.wrap m.limit = m.limit ∧ IntKind.u64.wrap m.offset = m.offset
 locs : ∀ l ∈ x.locs, IntKind.u64.wrap l.id = l.id ∧ IntKind.u64.wrap l.addr = l.addr ∧ ∀ n ∈ l.lines, IntKind.i64.wrap n.line = n.line
 funs : ∀ f ∈ x.funcs, IntKind.u64.wrap f.id = f.id ∧ IntKind.i64.wrap f.start = f.start
theorem RProf.rng {w : World} {cs : List Value} {x : PProf} (h : RProf w cs x) : Rng x := by
 obtain ⟨a, s, m, l, f, cm, -, ha, hs, hm, hl, hf, -, h1, h2, h3⟩ := h
 refine ⟨h1, h2, h3, hs.each fun c y hR => ?_, hs.each fun c y hR => ?_, hm.each fun c y hR => hR.2, hl.each fun c y hR => ?_, hf.each fun c y hR => hR.2⟩
 ·obtain ⟨_, _, _, _, -, -, h, -, -⟩ := hR
  exact h.each fun _ _ h => h.2
 ·obtain ⟨_, _, _, _, -, -, -, -, h⟩ := hR
  refine h.each fun c t hR => ?_
  obtain ⟨_, -, h⟩ := hR
  exact h.each fun _ _ h => h.2
 ·obtain ⟨_, -, h1, -, h2, h⟩ := hR
  exact ⟨h1, h2, h.each fun _ _ h => h.2.2⟩
theorem idAt_range {ids : List Int} {z : Int} (h : ∀ i ∈ ids, IntKind.u64.wrap i = i) : 0 ≤ idAt ids z ∧ idAt ids z < 18446744073709551616 := by
 unfold idAt
 split
 ·rw [List.getD_eq_getElem?_getD]
  cases hg : ids[z.toNat]? with
  | none => simp
  | some i => exact u64_range (h i (List.mem_of_getElem? hg))
 ·omega
theorem Rng.mid {x : PProf} (h : Rng x) (z : Int) : 0 ≤ mid x z ∧ mid x z < 18446744073709551616 := idAt_range fun i hi => by
 obtain ⟨m, hm, rfl⟩ := List.mem_map.1 hi
 exact (h.maps m hm).1
theorem Rng.fnid {x : PProf} (h : Rng x) (z : Int) : 0 ≤ fnid x z ∧ fnid x z < 18446744073709551616 := idAt_range fun i hi => by
 obtain ⟨m, hm, rfl⟩ := List.mem_map.1 hi
 exact (h.funs m hm).1
theorem Rng.lid {x : PProf} (h : Rng x) (z : Int) : 0 ≤ lid x z ∧ lid x z < 18446744073709551616 := idAt_range fun i hi => by
 obtain ⟨m, hm, rfl⟩ := List.mem_map.1 hi
 exact (h.locs m hm).1
theorem At.wrap {T : List ByteArray} {n : Int} {s : ByteArray} (h : At T n s) (hl : T.length ≤ 100000000) : IntKind.i64.wrap n = n := by
 obtain ⟨k, rfl, hk⟩ := h
 have := (List.getElem?_eq_some_iff.1 hk).1
 exact wrap64_small (by omega) (by omega)
/-! ### what each part is written as -/
def MT (T : List ByteArray) (t : PType) (M : List Nat) : Prop := ∃ n m, M = vtB n m ∧ At T n t.ty ∧ At T m t.unit
def MM (T : List ByteArray) (m : PMapping) (M : List Nat) : Prop := ∃ n k, M = mpB m.id.toNat m.start.toNat m.limit.toNat m.offset.toNat n k m.fu m.fi m.li m.inl ∧ At T n m.file ∧ At T k m.build
def MF (T : List ByteArray) (f : PFunc) (M : List Nat) : Prop := ∃ n k i, M = fnB f.id.toNat n k i f.start ∧ At T n f.name ∧ At T k f.system ∧ At T i f.file
def ML (x : PProf) (l : PLoc) (M : List Nat) : Prop := M = optB 1 l.id.toNat ++ (optB 2 (mid x l.mapping).toNat ++ (optB 3 l.addr.toNat ++ msB 4 (l.lines.map fun n => lnB (fnid x n.fn).toNat n.line)))
def MS (T : List ByteArray) (x : PProf) (s : PSample) (M : List Nat) : Prop := ∃ lbs, LbR T lbs (labE s) ∧ M = smB (s.stack.map fun z => (lid x z).toNat) s.values lbs
def All2 {α β : Type} (xs : List α) (ys : List β) (R : α → β → Prop) : Prop := ys.length = xs.length ∧ ∀ (i : Nat) a b, xs[i]? = some a → ys[i]? = some b → R a b
theorem Each.pick {α β : Type} : ∀ {bs : List Nat} {xs : List α} {φ : Nat → α → Prop} {R : Nat → α → β → Prop}, Each bs xs φ → (∀ b x, x ∈ xs → φ b x → ∃ M, R b x M) → ∃ Ms : List β, Ms.length = xs.length ∧ ∀ (i : Nat) b x M, bs[i]? = some b → xs[i]? = some x → Ms[i]? = some M → R b x M
 | [], [], _, _, _, _ => ⟨[], rfl, by simp⟩
 | [], _ :: _, _, _, h, _ => by have := h.1; simp at this
 | _ :: _, [], _, _, h, _ => by have := h.1; simp at this
 | b :: bs, x :: xs, φ, R, h, hp => by
  obtain ⟨Ms, h1, h2⟩ := Each.pick (bs := bs) (xs := xs) (φ := φ) (R := R) ⟨by have := h.1; simpa using this, fun i b' x' hb hx => h.2 (i + 1) b' x' (by simpa using hb) (by simpa using hx)⟩ fun b' x' hx => hp b' x' (by simp [hx])
  obtain ⟨M, hM⟩ := hp b x (by simp) (h.2 0 b x rfl rfl)
  refine ⟨M :: Ms, by simp [h1], fun i b' x' M' hb hx hm => ?_⟩
  cases i with
  | zero => simp at hb hx hm; subst hb; subst hx; subst hm; exact hM
  | succ i => exact h2 i b' x' M' (by simpa using hb) (by simpa using hx) (by simpa using hm)
/-- the whole that is written -/
structure PR (x : PProf) (T : List ByteArray) (q : PIn) : Prop where
 ts : All2 x.types q.ts (MT T)
 ss : All2 x.samples q.ss (MS T x)
 ms : All2 x.mappings q.ms (MM T)
 ls : All2 x.locs q.ls (ML x)
 fs : All2 x.funcs q.fs (MF T)
 tab : q.tab = T
 zero : T[0]? = some eB
 sub : ∀ s ∈ T, s ∈ allS x
 nd : T.Nodup
 dx : At T q.dx x.drop
 kx : At T q.kx x.keep
 ti : q.ti = x.time
 du : q.du = x.dur
 pe : q.pe = x.period
 tx : At T q.tx x.per.ty
 ux : At T q.ux x.per.unit
/-! ### lengths -/
theorem encF_len {tag : Nat} {M : List Nat} (ht : tag < 1048576) (hM : M.length ≤ 100000000000) : (encF (.bys tag M)).length ≤ M.length + 11 := by
 have h2 := lenB_short (len := M.length) ht hM
 have : (encF (.bys tag M)).length = (lenB M.length tag).length + M.length := by simp [encF, lenB]; omega
 omega
theorem msB_len {tag c : Nat} (ht : tag < 1048576) (hc : c ≤ 100000000) {Ms : List (List Nat)} (h : ∀ M ∈ Ms, M.length ≤ c) : (msB tag Ms).length ≤ (c + 11) * Ms.length := flatMap_bound fun M hM => by
 have := encF_len (M := M) ht (by have := h M hM; omega)
 have := h M hM
 omega
def sumS (l : List ByteArray) : Nat := (l.map fun s => s.size + 1).sum
theorem sumS_erase {l : List ByteArray} : ∀ {s : ByteArray}, s ∈ l → ∃ l', (∀ t, t ∈ l → t ≠ s → t ∈ l') ∧ sumS l' + (s.size + 1) ≤ sumS l := by
 induction l with
 | nil => intro s h; cases h
 | cons a r ih =>
  intro s h
  by_cases he : a = s
  ·subst he
   exact ⟨r, fun t ht hne => (List.mem_cons.1 ht).resolve_left hne, by simp [sumS]; omega⟩
  ·obtain ⟨l', h1, h2⟩ := ih ((List.mem_cons.1 h).resolve_left fun e => he e.symm)
   refine ⟨a :: l', fun t ht hne => ?_, by simp [sumS] at h2 ⊢; omega⟩
   rcases List.mem_cons.1 ht with rfl | ht
   ·simp
   ·exact List.mem_cons_of_mem _ (h1 t ht hne)
theorem sumS_sub : ∀ {T l : List ByteArray}, T.Nodup → (∀ s ∈ T, s ∈ l) → sumS T ≤ sumS l
 | [], _, _, _ => by simp [sumS]
 | s :: r, l, hn, hs => by
  obtain ⟨l', h1, h2⟩ := sumS_erase (hs s (by simp))
  have hn' := List.nodup_cons.1 hn
  have h3 := sumS_sub (T := r) (l := l') hn'.2 fun t ht => h1 t (hs t (by simp [ht])) (by rintro rfl; exact hn'.1 ht)
  simp [sumS] at h2 h3 ⊢
  omega
theorem len_sumS : ∀ {l : List ByteArray}, l.length ≤ sumS l
 | [] => Nat.zero_le _
 | s :: r => by have := len_sumS (l := r); simp [sumS] at this ⊢; omega
theorem strsB_len {tag : Nat} (ht : tag < 1048576) : ∀ {T : List ByteArray}, sumS T ≤ 100000000 → (strsB tag T).length ≤ 12 * sumS T
 | [], _ => Nat.zero_le _
 | s :: r, h => by
  have h0 : sumS (s :: r) = s.size + 1 + sumS r := by simp [sumS]
  have h1 := strsB_len (T := r) ht (by omega)
  have hs : (sB s).length = s.size := by simp only [sB, List.length_map, Array.length_toList]; rfl
  have h2 := encF_len (M := sB s) ht (by omega)
  have h3 : (strsB tag (s :: r)).length = (encF (.bys tag (sB s))).length + (strsB tag r).length := by rw [strsB, List.flatMap_cons, List.length_append]; rfl
  omega
end Go.Proofs.YtifnhinopjgfaaaGreat
