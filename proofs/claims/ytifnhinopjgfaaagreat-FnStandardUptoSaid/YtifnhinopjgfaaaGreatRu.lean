/-
  A profile that is handed in, as it is read: what lies in memory. Conditions: none.
-/
import Derived.Test.YtifnhinopjgfaaaGreatPl
import Derived.Test.YtifnhinopjgfaaaGreatProg
import Derived.WideKeyArgs
import Derived.JoinedOf
import Derived.ChangeArms
import Derived.RowKit3
import Derived.KernelRfl
import Derived.Test.YtifnhinopjgfaaaGreatRows
import Derived.Test.YtifnhinopjgfaaaGreatRl
namespace Go.Fw
open Go Go.Proofs.YtifnhinopjgfaaaGreat
section
variable {H : Type} {enc : TypeId × Value → H} {P : Program} {w : World}
def RD {α : Type} (enc : TypeId × Value → H) (P : Program) (w : World) (t : Nat) (R : World → List Value → α → Prop) (m : α → Nat) : Prop :=
 ∀ (fuel : Nat) (cs : List Value) (x : DataW H × List MemPlace), DataW.trod enc P w 0 (fun _ => true) true fuel t cs = some x → ∃ a, R w cs a ∧ m a ≤ Rows.uptoBulk x.1
theorem wf_wrap_eq {k : IntKind} {n : Int} (h : (Lit.int k n).wf = true) : k.wrap n = n := by
 cases k <;> simp [Lit.wf, IntKind.wrap, IntKind.min, IntKind.max, IntKind.signed, IntKind.bits] at h ⊢ <;> omega
theorem rd_str {t : Nat} (ht : P.underlying t = some .string) : RD enc P w t RStr (fun s => s.size + 1) := fun fuel cs x h => by
 obtain ⟨s, rfl, rfl, -⟩ := DataW.trod_string ht h
 exact ⟨s, rfl, by simp only [Rows.uptoBulk]; rw [Array.length_toList]; exact Nat.le_refl _⟩
theorem rd_int {t : Nat} {k : IntKind} (ht : P.underlying t = some (.int k)) : RD enc P w t (RInt k) (fun _ => 0) := fun fuel cs x h => by
 obtain ⟨n, rfl, -, hw⟩ := DataW.trod_int ht h
 exact ⟨n, ⟨rfl, wf_wrap_eq hw⟩, Nat.zero_le _⟩
def RBool (_ : World) (c : List Value) (x : Bool) : Prop := c = [.bool x]
theorem rd_bool {t : Nat} (ht : P.underlying t = some .bool) : RD enc P w t RBool (fun _ => 0) := fun fuel cs x h => by
 obtain ⟨b, rfl, -⟩ := DataW.trod_bool ht h
 exact ⟨b, rfl, Nat.zero_le _⟩
def RSl {α : Type} (R : World → List Value → α → Prop) (sz : Nat) (w : World) (c : List Value) (xs : List α) : Prop := ∃ v, c = [v] ∧ Lay R sz w v xs
theorem flat_inv {sz : Nat} : ∀ {cs : List (List Value)}, (∀ c ∈ cs, c.length = sz) → ∀ (j : Nat) (u : Value), cs.flatten[j]? = some u → ∃ (i : Nat) (c : List Value) (r : Nat), cs[i]? = some c ∧ c[r]? = some u ∧ j = i * sz + r
 | [], _, j, u, h => by simp at h
 | a :: cs, hl, j, u, h => by
  have ha := hl a (by simp)
  rw [List.flatten_cons] at h
  by_cases hj : j < a.length
  ·rw [List.getElem?_append_left hj] at h
   exact ⟨0, a, j, rfl, h, by simp⟩
  ·rw [List.getElem?_append_right (by omega)] at h
   obtain ⟨i, c, r, h1, h2, h3⟩ := flat_inv (fun c hc => hl c (by simp [hc])) _ u h
   exact ⟨i + 1, c, r, by simpa using h1, h2, by rw [Nat.succ_mul]; omega⟩
theorem cells_get {a : Addr} {n : Nat} {c : List Value} (h : w.cells? 0 a n = some c) : c.length = n ∧ ∀ (r : Nat) u, c[r]? = some u → w.cell? (a.add r) = some u := by
 unfold World.cells? at h
 rw [if_pos (Nat.zero_le _)] at h
 have hl : c.length = n := by simpa using mapM_some_length h
 refine ⟨hl, fun r u hu => ?_⟩
 have hr := (List.getElem?_eq_some_iff.1 hu).1
 have := mapM_some_get h r r (by rw [List.getElem?_range (by omega)])
 rw [this]; exact hu
theorem sum_le {α : Type} {m : α → Nat} : ∀ {ys : List α} {es : List (DataW H × List MemPlace)}, ys.length ≤ es.length → (∀ (i : Nat) y e, ys[i]? = some y → es[i]? = some e → m y ≤ Rows.uptoBulk e.1) → (ys.map m).sum ≤ Rows.uptoBulkAll (es.map (·.1))
 | [], _, _, _ => Nat.zero_le _
 | _ :: _, [], h, _ => by simp at h
 | y :: ys, e :: es, h, hp => by
  have h1 := sum_le (m := m) (ys := ys) (es := es) (by simpa using h) fun i y' e' hy he => hp (i + 1) y' e' (by simpa using hy) (by simpa using he)
  have h2 := hp 0 y e rfl rfl
  simp only [List.map_cons, List.sum_cons, Rows.uptoBulkAll]
  omega
theorem rd_slice {α : Type} {m : α → Nat} {R : World → List Value → α → Prop} {t e sz : Nat} (ht : P.underlying t = some (.slice e)) (hc : P.cellsOf e = sz) (hp : 0 < sz) (he : RD enc P w e R m) : RD enc P w t (RSl R sz) (fun xs => (xs.map m).sum) := fun fuel cs x h => by
 rcases DataW.trod_slice ht h with ⟨rfl, -⟩ | ⟨a, len, cap, elems, rest, n, -, rfl, rfl, -, hlc, hcm, hel, hget, -, -⟩
 ·exact ⟨[], ⟨_, rfl, [], ⟨⟨none, 0, rfl, Nat.le_refl _, .inl rfl⟩, by simp, Nat.zero_le _⟩, rfl, by simp, by simp⟩, Nat.zero_le _⟩
 ·have key : ∀ i : Fin len, ∃ (c : List Value) (y : α), w.cells? 0 (a.add (i.1 * sz)) sz = some c ∧ R w c y ∧ ∀ e, elems[i.1]? = some e → m y ≤ Rows.uptoBulk e.1 := fun i => by
   have h1 := hget i.1 i.2
   rw [hc, List.getElem?_eq_getElem (by omega)] at h1
   obtain ⟨c, h2, h3⟩ := Option.bind_eq_some_iff.1 h1
   obtain ⟨y, hy⟩ := he _ _ _ h3
   exact ⟨c, y, h2, hy.1, fun e he => by
    rw [List.getElem?_eq_getElem (by omega)] at he
    cases he; exact hy.2⟩
  let fc : Fin len → List Value := fun i => Classical.choose (key i)
  let fy : Fin len → α := fun i => Classical.choose (Classical.choose_spec (key i))
  have hk : ∀ i : Fin len, w.cells? 0 (a.add (i.1 * sz)) sz = some (fc i) ∧ R w (fc i) (fy i) ∧ ∀ e, elems[i.1]? = some e → m (fy i) ≤ Rows.uptoBulk e.1 := fun i => Classical.choose_spec (Classical.choose_spec (key i))
  have hlen : ∀ c ∈ List.ofFn fc, c.length = sz := fun c hcm => by
   obtain ⟨i, hi⟩ := List.mem_iff_getElem?.1 hcm
   have hlt := (List.getElem?_eq_some_iff.1 hi).1
   simp at hlt
   rw [List.getElem?_ofFn, dif_pos hlt] at hi
   cases hi
   exact (cells_get (hk ⟨i, hlt⟩).1).1
  refine ⟨List.ofFn fy, ⟨_, rfl, List.ofFn fc, ⟨⟨some a, cap, by simp, by simpa using hlc, ?_⟩, ?_, ?_⟩, by simp, hlen, ?_⟩, ?_⟩
  rotate_left 4
  ·have h1 := sum_le (m := m) (ys := List.ofFn fy) (es := elems) (by simp; omega) fun i y e hy he => by
    have hlt := (List.getElem?_eq_some_iff.1 hy).1
    simp at hlt
    rw [List.getElem?_ofFn, dif_pos hlt] at hy
    cases hy
    exact (hk ⟨i, hlt⟩).2.2 e he
   simp only [Rows.uptoBulk]
   omega
  ·by_cases h0 : len = 0
   ·exact .inl (by simpa using h0)
   ·right
    have hs : a.spot = none := by
     have h1 := (cells_get (hk ⟨0, by omega⟩).1)
     have h2 : 0 < (fc ⟨0, by omega⟩).length := by rw [h1.1]; exact hp
     have h3 := h1.2 0 _ (List.getElem?_eq_getElem h2)
     have h4 := World.cell?_spot h3
     simpa [Addr.add] using h4
    obtain ⟨b, off, spot⟩ := a
    simp at hs
    subst hs
    refine ⟨b, off, rfl, fun j u hj => ?_⟩
    obtain ⟨i, c, r, h1, h2, rfl⟩ := flat_inv hlen j u hj
    have hlt := (List.getElem?_eq_some_iff.1 h1).1
    simp at hlt
    rw [List.getElem?_ofFn, dif_pos hlt] at h1
    cases h1
    have h3 := (cells_get (hk ⟨i, hlt⟩).1).2 r u h2
    have h4 : (Addr.add ⟨b, off, none⟩ (i * sz)).add r = ⟨b, off + (i * sz + r), none⟩ := by
     unfold Addr.add
     by_cases q1 : i * sz = 0 <;> by_cases q2 : r = 0 <;> simp [q1, q2, Nat.add_assoc]
    rw [h4] at h3
    exact h3
  ·have : ∀ {l : List (List Value)}, (∀ c ∈ l, c.length = sz) → l.flatten.length = l.length * sz := by
    intro l
    induction l with
    | nil => intro _; simp
    | cons a r ih => intro h; rw [List.flatten_cons, List.length_append, h a (by simp), ih (fun c hc => h c (by simp [hc])), List.length_cons, Nat.succ_mul]; omega
   rw [this hlen]; simp
  ·have : (List.ofFn fy).length = len := by simp
   rw [this]
   have : maxLen = 9223372036854775807 := by decide
   omega
  ·intro i c y h1 h2
   have hlt := (List.getElem?_eq_some_iff.1 h1).1
   simp at hlt
   rw [List.getElem?_ofFn, dif_pos hlt] at h1 h2
   cases h1; cases h2
   exact (hk ⟨i, hlt⟩).2.1
end
end Go.Fw
namespace Go.Proofs.YtifnhinopjgfaaaGreat
open Go Go.Fw Go.Proofs
section
variable {H : Type} {enc : TypeId × Value → H} {w : World}
theorem cellsOf9 : Tryz.prog.cellsOf 9 = 1 := by kernel_rfl
theorem cellsOf3 : Tryz.prog.cellsOf 3 = 1 := by kernel_rfl
theorem cellsOf2 : Tryz.prog.cellsOf 2 = 1 := by kernel_rfl
theorem cellsOf59 : Tryz.prog.cellsOf 59 = 1 := by kernel_rfl
theorem cellsOf4 : Tryz.prog.cellsOf 4 = 1 := by kernel_rfl
theorem cellsOf29 : Tryz.prog.cellsOf 29 = 2 := by kernel_rfl
theorem cellsOf96 : Tryz.prog.cellsOf 96 = 2 := by kernel_rfl
theorem cellsOf99 : Tryz.prog.cellsOf 99 = 2 := by kernel_rfl
theorem cellsOf50 : Tryz.prog.cellsOf 50 = 4 := by kernel_rfl
theorem cellsOf70 : Tryz.prog.cellsOf 70 = 10 := by kernel_rfl
theorem cellsOf78 : Tryz.prog.cellsOf 78 = 2 := by kernel_rfl
theorem cellsOf76 : Tryz.prog.cellsOf 76 = 4 := by kernel_rfl
theorem cellsOf72 : Tryz.prog.cellsOf 72 = 5 := by kernel_rfl
theorem cellsOf31 : Tryz.prog.cellsOf 31 = 14 := by kernel_rfl
theorem cellsOf27 : Tryz.prog.cellsOf 27 = 1 := by kernel_rfl
theorem cellsOf46 : Tryz.prog.cellsOf 46 = 1 := by kernel_rfl
theorem cellsOf45 : Tryz.prog.cellsOf 45 = 1 := by kernel_rfl
theorem cellsOf22 : Tryz.prog.cellsOf 22 = 1 := by kernel_rfl
theorem cellsOf23 : Tryz.prog.cellsOf 23 = 1 := by kernel_rfl
theorem cellsOf24 : Tryz.prog.cellsOf 24 = 1 := by kernel_rfl
theorem cellsOf25 : Tryz.prog.cellsOf 25 = 1 := by kernel_rfl
theorem cellsOf26 : Tryz.prog.cellsOf 26 = 1 := by kernel_rfl
theorem cellsOf47 : Tryz.prog.cellsOf 47 = 1 := by kernel_rfl
theorem cellsOf48 : Tryz.prog.cellsOf 48 = 1 := by kernel_rfl
theorem cellsOf74 : Tryz.prog.cellsOf 74 = 1 := by kernel_rfl
def mTy (t : PType) : Nat := (t.ty.size + 1) + (t.unit.size + 1)
def mTx (t : PTexts) : Nat := (t.key.size + 1) + (t.list.map fun s => s.size + 1).sum
def mNu (t : PNums) : Nat := t.key.size + 1
def mSm (s : PSample) : Nat := (s.texts.map mTx).sum + (s.nums.map mNu).sum
def mMp (m : PMapping) : Nat := (m.file.size + 1) + (m.build.size + 1)
def mLn (_ : PLine) : Nat := 0
def mLc (_ : PLoc) : Nat := 0
def mFn (f : PFunc) : Nat := (f.name.size + 1) + ((f.system.size + 1) + (f.file.size + 1))
def mPf (x : PProf) : Nat := (x.types.map mTy).sum + ((x.samples.map mSm).sum + ((x.mappings.map mMp).sum + ((x.funcs.map mFn).sum + ((x.drop.size + 1) + ((x.keep.size + 1) + mTy x.per)))))
theorem rd_Type : RD enc Tryz.prog w 29 RType mTy := fun fuel cs x h => by
 obtain ⟨xs, n, -, rfl, hlen, hxl, hf⟩ := DataW.trod_struct Tryz.underlying29 h
 rw [cellsOf29] at hlen
 replace hxl : xs.length = 2 := hxl
 obtain ⟨y0, y1, rfl⟩ : ∃ y0 y1, xs = [y0, y1] := by
  clear hf h
  rcases xs with _ | ⟨y0, xs⟩
  ·simp at hxl
  rcases xs with _ | ⟨y1, xs⟩
  ·simp at hxl
  rcases xs with _ | ⟨y, xs⟩
  ·exact ⟨_, _, rfl⟩
  ·simp at hxl
 have t0 := hf 0 _ rfl
 obtain ⟨a0, r0, q0⟩ := (rd_str Tryz.underlying9) _ _ y0 t0
 have g0 : RStr w ((cs.drop 0).take (Tryz.prog.cellsOf 9)) a0 := r0
 rw [cellsOf9] at g0
 clear t0 r0
 have t1 := hf 1 _ rfl
 obtain ⟨a1, r1, q1⟩ := (rd_str Tryz.underlying9) _ _ y1 t1
 have g1 : RStr w ((cs.drop 1).take (Tryz.prog.cellsOf 9)) a1 := r1
 rw [cellsOf9] at g1
 clear t1 r1
 clear hf
 have hq : Rows.uptoBulk y0.1 + (Rows.uptoBulk y1.1 + 0) + 1 ≤ Rows.uptoBulk (.agg ([y0, y1].map (·.1))) := by simp only [Rows.uptoBulk, Rows.uptoBulkAll, List.map_cons, List.map_nil]; omega
 obtain ⟨c0, c1, rfl⟩ : ∃ c0 c1, cs = [c0, c1] := by
  clear h g0 g1
  rcases cs with _ | ⟨c0, cs⟩
  ·simp at hlen
  rcases cs with _ | ⟨c1, cs⟩
  ·simp at hlen
  rcases cs with _ | ⟨c, cs⟩
  ·exact ⟨_, _, rfl⟩
  ·simp at hlen
 have h0 : RStr w [c0] a0 := g0
 have h1 : RStr w [c1] a1 := g1
 have e0 := h0
 obtain rfl := (List.cons.inj e0).1
 have e1 := h1
 obtain rfl := (List.cons.inj e1).1
 have p0 : a0.size + 1 ≤ Rows.uptoBulk y0.1 := q0
 have p1 : a1.size + 1 ≤ Rows.uptoBulk y1.1 := q1
 refine ⟨⟨a0, a1⟩, rfl, ?_⟩
 refine Nat.le_trans ?_ hq
 simp only [mTy]; omega
theorem rd_Texts : RD enc Tryz.prog w 96 RTexts mTx := fun fuel cs x h => by
 obtain ⟨xs, n, -, rfl, hlen, hxl, hf⟩ := DataW.trod_struct Tryz.underlying96 h
 rw [cellsOf96] at hlen
 replace hxl : xs.length = 2 := hxl
 obtain ⟨y0, y1, rfl⟩ : ∃ y0 y1, xs = [y0, y1] := by
  clear hf h
  rcases xs with _ | ⟨y0, xs⟩
  ·simp at hxl
  rcases xs with _ | ⟨y1, xs⟩
  ·simp at hxl
  rcases xs with _ | ⟨y, xs⟩
  ·exact ⟨_, _, rfl⟩
  ·simp at hxl
 have t0 := hf 0 _ rfl
 obtain ⟨a0, r0, q0⟩ := (rd_str Tryz.underlying9) _ _ y0 t0
 have g0 : RStr w ((cs.drop 0).take (Tryz.prog.cellsOf 9)) a0 := r0
 rw [cellsOf9] at g0
 clear t0 r0
 have t1 := hf 1 _ rfl
 obtain ⟨a1, r1, q1⟩ := (rd_slice Tryz.underlying27 cellsOf9 (by decide) (rd_str Tryz.underlying9)) _ _ y1 t1
 have g1 : (RSl RStr 1) w ((cs.drop 1).take (Tryz.prog.cellsOf 27)) a1 := r1
 rw [cellsOf27] at g1
 clear t1 r1
 clear hf
 have hq : Rows.uptoBulk y0.1 + (Rows.uptoBulk y1.1 + 0) + 1 ≤ Rows.uptoBulk (.agg ([y0, y1].map (·.1))) := by simp only [Rows.uptoBulk, Rows.uptoBulkAll, List.map_cons, List.map_nil]; omega
 obtain ⟨c0, c1, rfl⟩ : ∃ c0 c1, cs = [c0, c1] := by
  clear h g0 g1
  rcases cs with _ | ⟨c0, cs⟩
  ·simp at hlen
  rcases cs with _ | ⟨c1, cs⟩
  ·simp at hlen
  rcases cs with _ | ⟨c, cs⟩
  ·exact ⟨_, _, rfl⟩
  ·simp at hlen
 have h0 : RStr w [c0] a0 := g0
 have h1 : (RSl RStr 1) w [c1] a1 := g1
 have e0 := h0
 obtain rfl := (List.cons.inj e0).1
 obtain ⟨v1, e1, h1⟩ := h1
 obtain rfl := (List.cons.inj e1).1
 have p0 : a0.size + 1 ≤ Rows.uptoBulk y0.1 := q0
 have p1 : (a1.map (fun s : ByteArray => s.size + 1)).sum ≤ Rows.uptoBulk y1.1 := q1
 refine ⟨⟨a0, a1⟩, ⟨_, rfl, h1⟩, ?_⟩
 refine Nat.le_trans ?_ hq
 simp only [mTx]; omega
theorem rd_Numbers : RD enc Tryz.prog w 99 RNums mNu := fun fuel cs x h => by
 obtain ⟨xs, n, -, rfl, hlen, hxl, hf⟩ := DataW.trod_struct Tryz.underlying99 h
 rw [cellsOf99] at hlen
 replace hxl : xs.length = 2 := hxl
 obtain ⟨y0, y1, rfl⟩ : ∃ y0 y1, xs = [y0, y1] := by
  clear hf h
  rcases xs with _ | ⟨y0, xs⟩
  ·simp at hxl
  rcases xs with _ | ⟨y1, xs⟩
  ·simp at hxl
  rcases xs with _ | ⟨y, xs⟩
  ·exact ⟨_, _, rfl⟩
  ·simp at hxl
 have t0 := hf 0 _ rfl
 obtain ⟨a0, r0, q0⟩ := (rd_str Tryz.underlying9) _ _ y0 t0
 have g0 : RStr w ((cs.drop 0).take (Tryz.prog.cellsOf 9)) a0 := r0
 rw [cellsOf9] at g0
 clear t0 r0
 have t1 := hf 1 _ rfl
 obtain ⟨a1, r1, q1⟩ := (rd_slice Tryz.underlying46 cellsOf2 (by decide) (rd_int Tryz.underlying2)) _ _ y1 t1
 have g1 : (RSl (RInt .i64) 1) w ((cs.drop 1).take (Tryz.prog.cellsOf 46)) a1 := r1
 rw [cellsOf46] at g1
 clear t1 r1
 clear hf
 have hq : Rows.uptoBulk y0.1 + (Rows.uptoBulk y1.1 + 0) + 1 ≤ Rows.uptoBulk (.agg ([y0, y1].map (·.1))) := by simp only [Rows.uptoBulk, Rows.uptoBulkAll, List.map_cons, List.map_nil]; omega
 obtain ⟨c0, c1, rfl⟩ : ∃ c0 c1, cs = [c0, c1] := by
  clear h g0 g1
  rcases cs with _ | ⟨c0, cs⟩
  ·simp at hlen
  rcases cs with _ | ⟨c1, cs⟩
  ·simp at hlen
  rcases cs with _ | ⟨c, cs⟩
  ·exact ⟨_, _, rfl⟩
  ·simp at hlen
 have h0 : RStr w [c0] a0 := g0
 have h1 : (RSl (RInt .i64) 1) w [c1] a1 := g1
 have e0 := h0
 obtain rfl := (List.cons.inj e0).1
 obtain ⟨v1, e1, h1⟩ := h1
 obtain rfl := (List.cons.inj e1).1
 have p0 : a0.size + 1 ≤ Rows.uptoBulk y0.1 := q0
 have p1 : (a1.map (fun _ : Int => 0)).sum ≤ Rows.uptoBulk y1.1 := q1
 refine ⟨⟨a0, a1⟩, ⟨_, rfl, h1⟩, ?_⟩
 refine Nat.le_trans ?_ hq
 simp only [mNu]; omega
theorem rd_Sample : RD enc Tryz.prog w 50 RSample mSm := fun fuel cs x h => by
 obtain ⟨xs, n, -, rfl, hlen, hxl, hf⟩ := DataW.trod_struct Tryz.underlying50 h
 rw [cellsOf50] at hlen
 replace hxl : xs.length = 4 := hxl
 obtain ⟨y0, y1, y2, y3, rfl⟩ : ∃ y0 y1 y2 y3, xs = [y0, y1, y2, y3] := by
  clear hf h
  rcases xs with _ | ⟨y0, xs⟩
  ·simp at hxl
  rcases xs with _ | ⟨y1, xs⟩
  ·simp at hxl
  rcases xs with _ | ⟨y2, xs⟩
  ·simp at hxl
  rcases xs with _ | ⟨y3, xs⟩
  ·simp at hxl
  rcases xs with _ | ⟨y, xs⟩
  ·exact ⟨_, _, _, _, rfl⟩
  ·simp at hxl
 have t0 := hf 0 _ rfl
 obtain ⟨a0, r0, q0⟩ := (rd_slice Tryz.underlying45 cellsOf3 (by decide) (rd_int Tryz.underlying3)) _ _ y0 t0
 have g0 : (RSl (RInt .i64) 1) w ((cs.drop 0).take (Tryz.prog.cellsOf 45)) a0 := r0
 rw [cellsOf45] at g0
 clear t0 r0
 have t1 := hf 1 _ rfl
 obtain ⟨a1, r1, q1⟩ := (rd_slice Tryz.underlying46 cellsOf2 (by decide) (rd_int Tryz.underlying2)) _ _ y1 t1
 have g1 : (RSl (RInt .i64) 1) w ((cs.drop 1).take (Tryz.prog.cellsOf 46)) a1 := r1
 rw [cellsOf46] at g1
 clear t1 r1
 have t2 := hf 2 _ rfl
 obtain ⟨a2, r2, q2⟩ := (rd_slice Tryz.underlying47 cellsOf96 (by decide) rd_Texts) _ _ y2 t2
 have g2 : (RSl RTexts 2) w ((cs.drop 2).take (Tryz.prog.cellsOf 47)) a2 := r2
 rw [cellsOf47] at g2
 clear t2 r2
 have t3 := hf 3 _ rfl
 obtain ⟨a3, r3, q3⟩ := (rd_slice Tryz.underlying48 cellsOf99 (by decide) rd_Numbers) _ _ y3 t3
 have g3 : (RSl RNums 2) w ((cs.drop 3).take (Tryz.prog.cellsOf 48)) a3 := r3
 rw [cellsOf48] at g3
 clear t3 r3
 clear hf
 have hq : Rows.uptoBulk y0.1 + (Rows.uptoBulk y1.1 + (Rows.uptoBulk y2.1 + (Rows.uptoBulk y3.1 + 0))) + 1 ≤ Rows.uptoBulk (.agg ([y0, y1, y2, y3].map (·.1))) := by simp only [Rows.uptoBulk, Rows.uptoBulkAll, List.map_cons, List.map_nil]; omega
 obtain ⟨c0, c1, c2, c3, rfl⟩ : ∃ c0 c1 c2 c3, cs = [c0, c1, c2, c3] := by
  clear h g0 g1 g2 g3
  rcases cs with _ | ⟨c0, cs⟩
  ·simp at hlen
  rcases cs with _ | ⟨c1, cs⟩
  ·simp at hlen
  rcases cs with _ | ⟨c2, cs⟩
  ·simp at hlen
  rcases cs with _ | ⟨c3, cs⟩
  ·simp at hlen
  rcases cs with _ | ⟨c, cs⟩
  ·exact ⟨_, _, _, _, rfl⟩
  ·simp at hlen
 have h0 : (RSl (RInt .i64) 1) w [c0] a0 := g0
 have h1 : (RSl (RInt .i64) 1) w [c1] a1 := g1
 have h2 : (RSl RTexts 2) w [c2] a2 := g2
 have h3 : (RSl RNums 2) w [c3] a3 := g3
 obtain ⟨v0, e0, h0⟩ := h0
 obtain rfl := (List.cons.inj e0).1
 obtain ⟨v1, e1, h1⟩ := h1
 obtain rfl := (List.cons.inj e1).1
 obtain ⟨v2, e2, h2⟩ := h2
 obtain rfl := (List.cons.inj e2).1
 obtain ⟨v3, e3, h3⟩ := h3
 obtain rfl := (List.cons.inj e3).1
 have p0 : (a0.map (fun _ : Int => 0)).sum ≤ Rows.uptoBulk y0.1 := q0
 have p1 : (a1.map (fun _ : Int => 0)).sum ≤ Rows.uptoBulk y1.1 := q1
 have p2 : (a2.map mTx).sum ≤ Rows.uptoBulk y2.1 := q2
 have p3 : (a3.map mNu).sum ≤ Rows.uptoBulk y3.1 := q3
 refine ⟨⟨a0, a1, a2, a3⟩, ⟨_, _, _, _, rfl, h0, h1, h2, h3⟩, ?_⟩
 refine Nat.le_trans ?_ hq
 simp only [mSm]; omega
theorem rd_Mapping : RD enc Tryz.prog w 70 RMapping mMp := fun fuel cs x h => by
 obtain ⟨xs, n, -, rfl, hlen, hxl, hf⟩ := DataW.trod_struct Tryz.underlying70 h
 rw [cellsOf70] at hlen
 replace hxl : xs.length = 10 := hxl
 obtain ⟨y0, y1, y2, y3, y4, y5, y6, y7, y8, y9, rfl⟩ : ∃ y0 y1 y2 y3 y4 y5 y6 y7 y8 y9, xs = [y0, y1, y2, y3, y4, y5, y6, y7, y8, y9] := by
  clear hf h
  rcases xs with _ | ⟨y0, xs⟩
  ·simp at hxl
  rcases xs with _ | ⟨y1, xs⟩
  ·simp at hxl
  rcases xs with _ | ⟨y2, xs⟩
  ·simp at hxl
  rcases xs with _ | ⟨y3, xs⟩
  ·simp at hxl
  rcases xs with _ | ⟨y4, xs⟩
  ·simp at hxl
  rcases xs with _ | ⟨y5, xs⟩
  ·simp at hxl
  rcases xs with _ | ⟨y6, xs⟩
  ·simp at hxl
  rcases xs with _ | ⟨y7, xs⟩
  ·simp at hxl
  rcases xs with _ | ⟨y8, xs⟩
  ·simp at hxl
  rcases xs with _ | ⟨y9, xs⟩
  ·simp at hxl
  rcases xs with _ | ⟨y, xs⟩
  ·exact ⟨_, _, _, _, _, _, _, _, _, _, rfl⟩
  ·simp at hxl
 have t0 := hf 0 _ rfl
 obtain ⟨a0, r0, q0⟩ := (rd_int Tryz.underlying59) _ _ y0 t0
 have g0 : (RInt .u64) w ((cs.drop 0).take (Tryz.prog.cellsOf 59)) a0 := r0
 rw [cellsOf59] at g0
 clear t0 r0
 have t1 := hf 1 _ rfl
 obtain ⟨a1, r1, q1⟩ := (rd_int Tryz.underlying59) _ _ y1 t1
 have g1 : (RInt .u64) w ((cs.drop 1).take (Tryz.prog.cellsOf 59)) a1 := r1
 rw [cellsOf59] at g1
 clear t1 r1
 have t2 := hf 2 _ rfl
 obtain ⟨a2, r2, q2⟩ := (rd_int Tryz.underlying59) _ _ y2 t2
 have g2 : (RInt .u64) w ((cs.drop 2).take (Tryz.prog.cellsOf 59)) a2 := r2
 rw [cellsOf59] at g2
 clear t2 r2
 have t3 := hf 3 _ rfl
 obtain ⟨a3, r3, q3⟩ := (rd_int Tryz.underlying59) _ _ y3 t3
 have g3 : (RInt .u64) w ((cs.drop 3).take (Tryz.prog.cellsOf 59)) a3 := r3
 rw [cellsOf59] at g3
 clear t3 r3
 have t4 := hf 4 _ rfl
 obtain ⟨a4, r4, q4⟩ := (rd_str Tryz.underlying9) _ _ y4 t4
 have g4 : RStr w ((cs.drop 4).take (Tryz.prog.cellsOf 9)) a4 := r4
 rw [cellsOf9] at g4
 clear t4 r4
 have t5 := hf 5 _ rfl
 obtain ⟨a5, r5, q5⟩ := (rd_str Tryz.underlying9) _ _ y5 t5
 have g5 : RStr w ((cs.drop 5).take (Tryz.prog.cellsOf 9)) a5 := r5
 rw [cellsOf9] at g5
 clear t5 r5
 have t6 := hf 6 _ rfl
 obtain ⟨a6, r6, q6⟩ := (rd_bool Tryz.underlying4) _ _ y6 t6
 have g6 : RBool w ((cs.drop 6).take (Tryz.prog.cellsOf 4)) a6 := r6
 rw [cellsOf4] at g6
 clear t6 r6
 have t7 := hf 7 _ rfl
 obtain ⟨a7, r7, q7⟩ := (rd_bool Tryz.underlying4) _ _ y7 t7
 have g7 : RBool w ((cs.drop 7).take (Tryz.prog.cellsOf 4)) a7 := r7
 rw [cellsOf4] at g7
 clear t7 r7
 have t8 := hf 8 _ rfl
 obtain ⟨a8, r8, q8⟩ := (rd_bool Tryz.underlying4) _ _ y8 t8
 have g8 : RBool w ((cs.drop 8).take (Tryz.prog.cellsOf 4)) a8 := r8
 rw [cellsOf4] at g8
 clear t8 r8
 have t9 := hf 9 _ rfl
 obtain ⟨a9, r9, q9⟩ := (rd_bool Tryz.underlying4) _ _ y9 t9
 have g9 : RBool w ((cs.drop 9).take (Tryz.prog.cellsOf 4)) a9 := r9
 rw [cellsOf4] at g9
 clear t9 r9
 clear hf
 have hq : Rows.uptoBulk y0.1 + (Rows.uptoBulk y1.1 + (Rows.uptoBulk y2.1 + (Rows.uptoBulk y3.1 + (Rows.uptoBulk y4.1 + (Rows.uptoBulk y5.1 + (Rows.uptoBulk y6.1 + (Rows.uptoBulk y7.1 + (Rows.uptoBulk y8.1 + (Rows.uptoBulk y9.1 + 0))))))))) + 1 ≤ Rows.uptoBulk (.agg ([y0, y1, y2, y3, y4, y5, y6, y7, y8, y9].map (·.1))) := by simp only [Rows.uptoBulk, Rows.uptoBulkAll, List.map_cons, List.map_nil]; omega
 obtain ⟨c0, c1, c2, c3, c4, c5, c6, c7, c8, c9, rfl⟩ : ∃ c0 c1 c2 c3 c4 c5 c6 c7 c8 c9, cs = [c0, c1, c2, c3, c4, c5, c6, c7, c8, c9] := by
  clear h g0 g1 g2 g3 g4 g5 g6 g7 g8 g9
  rcases cs with _ | ⟨c0, cs⟩
  ·simp at hlen
  rcases cs with _ | ⟨c1, cs⟩
  ·simp at hlen
  rcases cs with _ | ⟨c2, cs⟩
  ·simp at hlen
  rcases cs with _ | ⟨c3, cs⟩
  ·simp at hlen
  rcases cs with _ | ⟨c4, cs⟩
  ·simp at hlen
  rcases cs with _ | ⟨c5, cs⟩
  ·simp at hlen
  rcases cs with _ | ⟨c6, cs⟩
  ·simp at hlen
  rcases cs with _ | ⟨c7, cs⟩
  ·simp at hlen
  rcases cs with _ | ⟨c8, cs⟩
  ·simp at hlen
  rcases cs with _ | ⟨c9, cs⟩
  ·simp at hlen
  rcases cs with _ | ⟨c, cs⟩
  ·exact ⟨_, _, _, _, _, _, _, _, _, _, rfl⟩
  ·simp at hlen
 have h0 : (RInt .u64) w [c0] a0 := g0
 have h1 : (RInt .u64) w [c1] a1 := g1
 have h2 : (RInt .u64) w [c2] a2 := g2
 have h3 : (RInt .u64) w [c3] a3 := g3
 have h4 : RStr w [c4] a4 := g4
 have h5 : RStr w [c5] a5 := g5
 have h6 : RBool w [c6] a6 := g6
 have h7 : RBool w [c7] a7 := g7
 have h8 : RBool w [c8] a8 := g8
 have h9 : RBool w [c9] a9 := g9
 obtain ⟨e0, h0⟩ := h0
 obtain rfl := (List.cons.inj e0).1
 obtain ⟨e1, h1⟩ := h1
 obtain rfl := (List.cons.inj e1).1
 obtain ⟨e2, h2⟩ := h2
 obtain rfl := (List.cons.inj e2).1
 obtain ⟨e3, h3⟩ := h3
 obtain rfl := (List.cons.inj e3).1
 have e4 := h4
 obtain rfl := (List.cons.inj e4).1
 have e5 := h5
 obtain rfl := (List.cons.inj e5).1
 have e6 := h6
 obtain rfl := (List.cons.inj e6).1
 have e7 := h7
 obtain rfl := (List.cons.inj e7).1
 have e8 := h8
 obtain rfl := (List.cons.inj e8).1
 have e9 := h9
 obtain rfl := (List.cons.inj e9).1
 have p0 : 0 ≤ Rows.uptoBulk y0.1 := q0
 have p1 : 0 ≤ Rows.uptoBulk y1.1 := q1
 have p2 : 0 ≤ Rows.uptoBulk y2.1 := q2
 have p3 : 0 ≤ Rows.uptoBulk y3.1 := q3
 have p4 : a4.size + 1 ≤ Rows.uptoBulk y4.1 := q4
 have p5 : a5.size + 1 ≤ Rows.uptoBulk y5.1 := q5
 have p6 : 0 ≤ Rows.uptoBulk y6.1 := q6
 have p7 : 0 ≤ Rows.uptoBulk y7.1 := q7
 have p8 : 0 ≤ Rows.uptoBulk y8.1 := q8
 have p9 : 0 ≤ Rows.uptoBulk y9.1 := q9
 refine ⟨⟨a0, a1, a2, a3, a4, a5, a6, a7, a8, a9⟩, ⟨rfl, h0, h1, h2, h3⟩, ?_⟩
 refine Nat.le_trans ?_ hq
 simp only [mMp]; omega
theorem rd_Line : RD enc Tryz.prog w 78 RLine mLn := fun fuel cs x h => by
 obtain ⟨xs, n, -, rfl, hlen, hxl, hf⟩ := DataW.trod_struct Tryz.underlying78 h
 rw [cellsOf78] at hlen
 replace hxl : xs.length = 2 := hxl
 obtain ⟨y0, y1, rfl⟩ : ∃ y0 y1, xs = [y0, y1] := by
  clear hf h
  rcases xs with _ | ⟨y0, xs⟩
  ·simp at hxl
  rcases xs with _ | ⟨y1, xs⟩
  ·simp at hxl
  rcases xs with _ | ⟨y, xs⟩
  ·exact ⟨_, _, rfl⟩
  ·simp at hxl
 have t0 := hf 0 _ rfl
 obtain ⟨a0, r0, q0⟩ := (rd_int Tryz.underlying3) _ _ y0 t0
 have g0 : (RInt .i64) w ((cs.drop 0).take (Tryz.prog.cellsOf 3)) a0 := r0
 rw [cellsOf3] at g0
 clear t0 r0
 have t1 := hf 1 _ rfl
 obtain ⟨a1, r1, q1⟩ := (rd_int Tryz.underlying2) _ _ y1 t1
 have g1 : (RInt .i64) w ((cs.drop 1).take (Tryz.prog.cellsOf 2)) a1 := r1
 rw [cellsOf2] at g1
 clear t1 r1
 clear hf
 have hq : Rows.uptoBulk y0.1 + (Rows.uptoBulk y1.1 + 0) + 1 ≤ Rows.uptoBulk (.agg ([y0, y1].map (·.1))) := by simp only [Rows.uptoBulk, Rows.uptoBulkAll, List.map_cons, List.map_nil]; omega
 obtain ⟨c0, c1, rfl⟩ : ∃ c0 c1, cs = [c0, c1] := by
  clear h g0 g1
  rcases cs with _ | ⟨c0, cs⟩
  ·simp at hlen
  rcases cs with _ | ⟨c1, cs⟩
  ·simp at hlen
  rcases cs with _ | ⟨c, cs⟩
  ·exact ⟨_, _, rfl⟩
  ·simp at hlen
 have h0 : (RInt .i64) w [c0] a0 := g0
 have h1 : (RInt .i64) w [c1] a1 := g1
 obtain ⟨e0, h0⟩ := h0
 obtain rfl := (List.cons.inj e0).1
 obtain ⟨e1, h1⟩ := h1
 obtain rfl := (List.cons.inj e1).1
 have p0 : 0 ≤ Rows.uptoBulk y0.1 := q0
 have p1 : 0 ≤ Rows.uptoBulk y1.1 := q1
 refine ⟨⟨a0, a1⟩, ⟨rfl, h0, h1⟩, ?_⟩
 refine Nat.le_trans ?_ hq
 simp only [mLn]; omega
theorem rd_Location : RD enc Tryz.prog w 76 RLoc mLc := fun fuel cs x h => by
 obtain ⟨xs, n, -, rfl, hlen, hxl, hf⟩ := DataW.trod_struct Tryz.underlying76 h
 rw [cellsOf76] at hlen
 replace hxl : xs.length = 4 := hxl
 obtain ⟨y0, y1, y2, y3, rfl⟩ : ∃ y0 y1 y2 y3, xs = [y0, y1, y2, y3] := by
  clear hf h
  rcases xs with _ | ⟨y0, xs⟩
  ·simp at hxl
  rcases xs with _ | ⟨y1, xs⟩
  ·simp at hxl
  rcases xs with _ | ⟨y2, xs⟩
  ·simp at hxl
  rcases xs with _ | ⟨y3, xs⟩
  ·simp at hxl
  rcases xs with _ | ⟨y, xs⟩
  ·exact ⟨_, _, _, _, rfl⟩
  ·simp at hxl
 have t0 := hf 0 _ rfl
 obtain ⟨a0, r0, q0⟩ := (rd_int Tryz.underlying59) _ _ y0 t0
 have g0 : (RInt .u64) w ((cs.drop 0).take (Tryz.prog.cellsOf 59)) a0 := r0
 rw [cellsOf59] at g0
 clear t0 r0
 have t1 := hf 1 _ rfl
 obtain ⟨a1, r1, q1⟩ := (rd_int Tryz.underlying3) _ _ y1 t1
 have g1 : (RInt .i64) w ((cs.drop 1).take (Tryz.prog.cellsOf 3)) a1 := r1
 rw [cellsOf3] at g1
 clear t1 r1
 have t2 := hf 2 _ rfl
 obtain ⟨a2, r2, q2⟩ := (rd_int Tryz.underlying59) _ _ y2 t2
 have g2 : (RInt .u64) w ((cs.drop 2).take (Tryz.prog.cellsOf 59)) a2 := r2
 rw [cellsOf59] at g2
 clear t2 r2
 have t3 := hf 3 _ rfl
 obtain ⟨a3, r3, q3⟩ := (rd_slice Tryz.underlying74 cellsOf78 (by decide) rd_Line) _ _ y3 t3
 have g3 : (RSl RLine 2) w ((cs.drop 3).take (Tryz.prog.cellsOf 74)) a3 := r3
 rw [cellsOf74] at g3
 clear t3 r3
 clear hf
 have hq : Rows.uptoBulk y0.1 + (Rows.uptoBulk y1.1 + (Rows.uptoBulk y2.1 + (Rows.uptoBulk y3.1 + 0))) + 1 ≤ Rows.uptoBulk (.agg ([y0, y1, y2, y3].map (·.1))) := by simp only [Rows.uptoBulk, Rows.uptoBulkAll, List.map_cons, List.map_nil]; omega
 obtain ⟨c0, c1, c2, c3, rfl⟩ : ∃ c0 c1 c2 c3, cs = [c0, c1, c2, c3] := by
  clear h g0 g1 g2 g3
  rcases cs with _ | ⟨c0, cs⟩
  ·simp at hlen
  rcases cs with _ | ⟨c1, cs⟩
  ·simp at hlen
  rcases cs with _ | ⟨c2, cs⟩
  ·simp at hlen
  rcases cs with _ | ⟨c3, cs⟩
  ·simp at hlen
  rcases cs with _ | ⟨c, cs⟩
  ·exact ⟨_, _, _, _, rfl⟩
  ·simp at hlen
 have h0 : (RInt .u64) w [c0] a0 := g0
 have h1 : (RInt .i64) w [c1] a1 := g1
 have h2 : (RInt .u64) w [c2] a2 := g2
 have h3 : (RSl RLine 2) w [c3] a3 := g3
 obtain ⟨e0, h0⟩ := h0
 obtain rfl := (List.cons.inj e0).1
 obtain ⟨e1, h1⟩ := h1
 obtain rfl := (List.cons.inj e1).1
 obtain ⟨e2, h2⟩ := h2
 obtain rfl := (List.cons.inj e2).1
 obtain ⟨v3, e3, h3⟩ := h3
 obtain rfl := (List.cons.inj e3).1
 have p0 : 0 ≤ Rows.uptoBulk y0.1 := q0
 have p1 : 0 ≤ Rows.uptoBulk y1.1 := q1
 have p2 : 0 ≤ Rows.uptoBulk y2.1 := q2
 have p3 : (a3.map mLn).sum ≤ Rows.uptoBulk y3.1 := q3
 refine ⟨⟨a0, a1, a2, a3⟩, ⟨_, rfl, h0, h1, h2, h3⟩, ?_⟩
 refine Nat.le_trans ?_ hq
 simp only [mLc]; omega
theorem rd_Func : RD enc Tryz.prog w 72 RFunc mFn := fun fuel cs x h => by
 obtain ⟨xs, n, -, rfl, hlen, hxl, hf⟩ := DataW.trod_struct Tryz.underlying72 h
 rw [cellsOf72] at hlen
 replace hxl : xs.length = 5 := hxl
 obtain ⟨y0, y1, y2, y3, y4, rfl⟩ : ∃ y0 y1 y2 y3 y4, xs = [y0, y1, y2, y3, y4] := by
  clear hf h
  rcases xs with _ | ⟨y0, xs⟩
  ·simp at hxl
  rcases xs with _ | ⟨y1, xs⟩
  ·simp at hxl
  rcases xs with _ | ⟨y2, xs⟩
  ·simp at hxl
  rcases xs with _ | ⟨y3, xs⟩
  ·simp at hxl
  rcases xs with _ | ⟨y4, xs⟩
  ·simp at hxl
  rcases xs with _ | ⟨y, xs⟩
  ·exact ⟨_, _, _, _, _, rfl⟩
  ·simp at hxl
 have t0 := hf 0 _ rfl
 obtain ⟨a0, r0, q0⟩ := (rd_int Tryz.underlying59) _ _ y0 t0
 have g0 : (RInt .u64) w ((cs.drop 0).take (Tryz.prog.cellsOf 59)) a0 := r0
 rw [cellsOf59] at g0
 clear t0 r0
 have t1 := hf 1 _ rfl
 obtain ⟨a1, r1, q1⟩ := (rd_str Tryz.underlying9) _ _ y1 t1
 have g1 : RStr w ((cs.drop 1).take (Tryz.prog.cellsOf 9)) a1 := r1
 rw [cellsOf9] at g1
 clear t1 r1
 have t2 := hf 2 _ rfl
 obtain ⟨a2, r2, q2⟩ := (rd_str Tryz.underlying9) _ _ y2 t2
 have g2 : RStr w ((cs.drop 2).take (Tryz.prog.cellsOf 9)) a2 := r2
 rw [cellsOf9] at g2
 clear t2 r2
 have t3 := hf 3 _ rfl
 obtain ⟨a3, r3, q3⟩ := (rd_str Tryz.underlying9) _ _ y3 t3
 have g3 : RStr w ((cs.drop 3).take (Tryz.prog.cellsOf 9)) a3 := r3
 rw [cellsOf9] at g3
 clear t3 r3
 have t4 := hf 4 _ rfl
 obtain ⟨a4, r4, q4⟩ := (rd_int Tryz.underlying2) _ _ y4 t4
 have g4 : (RInt .i64) w ((cs.drop 4).take (Tryz.prog.cellsOf 2)) a4 := r4
 rw [cellsOf2] at g4
 clear t4 r4
 clear hf
 have hq : Rows.uptoBulk y0.1 + (Rows.uptoBulk y1.1 + (Rows.uptoBulk y2.1 + (Rows.uptoBulk y3.1 + (Rows.uptoBulk y4.1 + 0)))) + 1 ≤ Rows.uptoBulk (.agg ([y0, y1, y2, y3, y4].map (·.1))) := by simp only [Rows.uptoBulk, Rows.uptoBulkAll, List.map_cons, List.map_nil]; omega
 obtain ⟨c0, c1, c2, c3, c4, rfl⟩ : ∃ c0 c1 c2 c3 c4, cs = [c0, c1, c2, c3, c4] := by
  clear h g0 g1 g2 g3 g4
  rcases cs with _ | ⟨c0, cs⟩
  ·simp at hlen
  rcases cs with _ | ⟨c1, cs⟩
  ·simp at hlen
  rcases cs with _ | ⟨c2, cs⟩
  ·simp at hlen
  rcases cs with _ | ⟨c3, cs⟩
  ·simp at hlen
  rcases cs with _ | ⟨c4, cs⟩
  ·simp at hlen
  rcases cs with _ | ⟨c, cs⟩
  ·exact ⟨_, _, _, _, _, rfl⟩
  ·simp at hlen
 have h0 : (RInt .u64) w [c0] a0 := g0
 have h1 : RStr w [c1] a1 := g1
 have h2 : RStr w [c2] a2 := g2
 have h3 : RStr w [c3] a3 := g3
 have h4 : (RInt .i64) w [c4] a4 := g4
 obtain ⟨e0, h0⟩ := h0
 obtain rfl := (List.cons.inj e0).1
 have e1 := h1
 obtain rfl := (List.cons.inj e1).1
 have e2 := h2
 obtain rfl := (List.cons.inj e2).1
 have e3 := h3
 obtain rfl := (List.cons.inj e3).1
 obtain ⟨e4, h4⟩ := h4
 obtain rfl := (List.cons.inj e4).1
 have p0 : 0 ≤ Rows.uptoBulk y0.1 := q0
 have p1 : a1.size + 1 ≤ Rows.uptoBulk y1.1 := q1
 have p2 : a2.size + 1 ≤ Rows.uptoBulk y2.1 := q2
 have p3 : a3.size + 1 ≤ Rows.uptoBulk y3.1 := q3
 have p4 : 0 ≤ Rows.uptoBulk y4.1 := q4
 refine ⟨⟨a0, a1, a2, a3, a4⟩, ⟨rfl, h0, h4⟩, ?_⟩
 refine Nat.le_trans ?_ hq
 simp only [mFn]; omega
theorem rd_Profile : RD enc Tryz.prog w 31 RProf mPf := fun fuel cs x h => by
 obtain ⟨xs, n, -, rfl, hlen, hxl, hf⟩ := DataW.trod_struct Tryz.underlying31 h
 rw [cellsOf31] at hlen
 replace hxl : xs.length = 13 := hxl
 obtain ⟨y0, y1, y2, y3, y4, y5, y6, y7, y8, y9, y10, y11, y12, rfl⟩ : ∃ y0 y1 y2 y3 y4 y5 y6 y7 y8 y9 y10 y11 y12, xs = [y0, y1, y2, y3, y4, y5, y6, y7, y8, y9, y10, y11, y12] := by
  clear hf h
  rcases xs with _ | ⟨y0, xs⟩
  ·simp at hxl
  rcases xs with _ | ⟨y1, xs⟩
  ·simp at hxl
  rcases xs with _ | ⟨y2, xs⟩
  ·simp at hxl
  rcases xs with _ | ⟨y3, xs⟩
  ·simp at hxl
  rcases xs with _ | ⟨y4, xs⟩
  ·simp at hxl
  rcases xs with _ | ⟨y5, xs⟩
  ·simp at hxl
  rcases xs with _ | ⟨y6, xs⟩
  ·simp at hxl
  rcases xs with _ | ⟨y7, xs⟩
  ·simp at hxl
  rcases xs with _ | ⟨y8, xs⟩
  ·simp at hxl
  rcases xs with _ | ⟨y9, xs⟩
  ·simp at hxl
  rcases xs with _ | ⟨y10, xs⟩
  ·simp at hxl
  rcases xs with _ | ⟨y11, xs⟩
  ·simp at hxl
  rcases xs with _ | ⟨y12, xs⟩
  ·simp at hxl
  rcases xs with _ | ⟨y, xs⟩
  ·exact ⟨_, _, _, _, _, _, _, _, _, _, _, _, _, rfl⟩
  ·simp at hxl
 have t0 := hf 0 _ rfl
 obtain ⟨a0, r0, q0⟩ := (rd_slice Tryz.underlying22 cellsOf29 (by decide) rd_Type) _ _ y0 t0
 have g0 : (RSl RType 2) w ((cs.drop 0).take (Tryz.prog.cellsOf 22)) a0 := r0
 rw [cellsOf22] at g0
 clear t0 r0
 have t1 := hf 1 _ rfl
 obtain ⟨a1, r1, q1⟩ := (rd_str Tryz.underlying9) _ _ y1 t1
 have g1 : RStr w ((cs.drop 1).take (Tryz.prog.cellsOf 9)) a1 := r1
 rw [cellsOf9] at g1
 clear t1 r1
 have t2 := hf 2 _ rfl
 obtain ⟨a2, r2, q2⟩ := (rd_slice Tryz.underlying23 cellsOf50 (by decide) rd_Sample) _ _ y2 t2
 have g2 : (RSl RSample 4) w ((cs.drop 2).take (Tryz.prog.cellsOf 23)) a2 := r2
 rw [cellsOf23] at g2
 clear t2 r2
 have t3 := hf 3 _ rfl
 obtain ⟨a3, r3, q3⟩ := (rd_slice Tryz.underlying24 cellsOf70 (by decide) rd_Mapping) _ _ y3 t3
 have g3 : (RSl RMapping 10) w ((cs.drop 3).take (Tryz.prog.cellsOf 24)) a3 := r3
 rw [cellsOf24] at g3
 clear t3 r3
 have t4 := hf 4 _ rfl
 obtain ⟨a4, r4, q4⟩ := (rd_slice Tryz.underlying25 cellsOf76 (by decide) rd_Location) _ _ y4 t4
 have g4 : (RSl RLoc 4) w ((cs.drop 4).take (Tryz.prog.cellsOf 25)) a4 := r4
 rw [cellsOf25] at g4
 clear t4 r4
 have t5 := hf 5 _ rfl
 obtain ⟨a5, r5, q5⟩ := (rd_slice Tryz.underlying26 cellsOf72 (by decide) rd_Func) _ _ y5 t5
 have g5 : (RSl RFunc 5) w ((cs.drop 5).take (Tryz.prog.cellsOf 26)) a5 := r5
 rw [cellsOf26] at g5
 clear t5 r5
 have t6 := hf 6 _ rfl
 obtain ⟨a6, r6, q6⟩ := (rd_slice Tryz.underlying27 cellsOf9 (by decide) (rd_str Tryz.underlying9)) _ _ y6 t6
 have g6 : (RSl RStr 1) w ((cs.drop 6).take (Tryz.prog.cellsOf 27)) a6 := r6
 rw [cellsOf27] at g6
 clear t6 r6
 have t7 := hf 7 _ rfl
 obtain ⟨a7, r7, q7⟩ := (rd_str Tryz.underlying9) _ _ y7 t7
 have g7 : RStr w ((cs.drop 7).take (Tryz.prog.cellsOf 9)) a7 := r7
 rw [cellsOf9] at g7
 clear t7 r7
 have t8 := hf 8 _ rfl
 obtain ⟨a8, r8, q8⟩ := (rd_str Tryz.underlying9) _ _ y8 t8
 have g8 : RStr w ((cs.drop 8).take (Tryz.prog.cellsOf 9)) a8 := r8
 rw [cellsOf9] at g8
 clear t8 r8
 have t9 := hf 9 _ rfl
 obtain ⟨a9, r9, q9⟩ := (rd_int Tryz.underlying2) _ _ y9 t9
 have g9 : (RInt .i64) w ((cs.drop 9).take (Tryz.prog.cellsOf 2)) a9 := r9
 rw [cellsOf2] at g9
 clear t9 r9
 have t10 := hf 10 _ rfl
 obtain ⟨a10, r10, q10⟩ := (rd_int Tryz.underlying2) _ _ y10 t10
 have g10 : (RInt .i64) w ((cs.drop 10).take (Tryz.prog.cellsOf 2)) a10 := r10
 rw [cellsOf2] at g10
 clear t10 r10
 have t11 := hf 11 _ rfl
 obtain ⟨a11, r11, q11⟩ := (rd_int Tryz.underlying2) _ _ y11 t11
 have g11 : (RInt .i64) w ((cs.drop 11).take (Tryz.prog.cellsOf 2)) a11 := r11
 rw [cellsOf2] at g11
 clear t11 r11
 have t12 := hf 12 _ rfl
 obtain ⟨a12, r12, q12⟩ := rd_Type _ _ y12 t12
 have g12 : RType w ((cs.drop 12).take (Tryz.prog.cellsOf 29)) a12 := r12
 rw [cellsOf29] at g12
 clear t12 r12
 clear hf
 have hq : Rows.uptoBulk y0.1 + (Rows.uptoBulk y1.1 + (Rows.uptoBulk y2.1 + (Rows.uptoBulk y3.1 + (Rows.uptoBulk y4.1 + (Rows.uptoBulk y5.1 + (Rows.uptoBulk y6.1 + (Rows.uptoBulk y7.1 + (Rows.uptoBulk y8.1 + (Rows.uptoBulk y9.1 + (Rows.uptoBulk y10.1 + (Rows.uptoBulk y11.1 + (Rows.uptoBulk y12.1 + 0)))))))))))) + 1 ≤ Rows.uptoBulk (.agg ([y0, y1, y2, y3, y4, y5, y6, y7, y8, y9, y10, y11, y12].map (·.1))) := by simp only [Rows.uptoBulk, Rows.uptoBulkAll, List.map_cons, List.map_nil]; omega
 obtain ⟨c0, c1, c2, c3, c4, c5, c6, c7, c8, c9, c10, c11, c12, c13, rfl⟩ : ∃ c0 c1 c2 c3 c4 c5 c6 c7 c8 c9 c10 c11 c12 c13, cs = [c0, c1, c2, c3, c4, c5, c6, c7, c8, c9, c10, c11, c12, c13] := by
  clear h g0 g1 g2 g3 g4 g5 g6 g7 g8 g9 g10 g11 g12
  rcases cs with _ | ⟨c0, cs⟩
  ·simp at hlen
  rcases cs with _ | ⟨c1, cs⟩
  ·simp at hlen
  rcases cs with _ | ⟨c2, cs⟩
  ·simp at hlen
  rcases cs with _ | ⟨c3, cs⟩
  ·simp at hlen
  rcases cs with _ | ⟨c4, cs⟩
  ·simp at hlen
  rcases cs with _ | ⟨c5, cs⟩
  ·simp at hlen
  rcases cs with _ | ⟨c6, cs⟩
  ·simp at hlen
  rcases cs with _ | ⟨c7, cs⟩
  ·simp at hlen
  rcases cs with _ | ⟨c8, cs⟩
  ·simp at hlen
  rcases cs with _ | ⟨c9, cs⟩
  ·simp at hlen
  rcases cs with _ | ⟨c10, cs⟩
  ·simp at hlen
  rcases cs with _ | ⟨c11, cs⟩
  ·simp at hlen
  rcases cs with _ | ⟨c12, cs⟩
  ·simp at hlen
  rcases cs with _ | ⟨c13, cs⟩
  ·simp at hlen
  rcases cs with _ | ⟨c, cs⟩
  ·exact ⟨_, _, _, _, _, _, _, _, _, _, _, _, _, _, rfl⟩
  ·simp at hlen
 have h0 : (RSl RType 2) w [c0] a0 := g0
 have h1 : RStr w [c1] a1 := g1
 have h2 : (RSl RSample 4) w [c2] a2 := g2
 have h3 : (RSl RMapping 10) w [c3] a3 := g3
 have h4 : (RSl RLoc 4) w [c4] a4 := g4
 have h5 : (RSl RFunc 5) w [c5] a5 := g5
 have h6 : (RSl RStr 1) w [c6] a6 := g6
 have h7 : RStr w [c7] a7 := g7
 have h8 : RStr w [c8] a8 := g8
 have h9 : (RInt .i64) w [c9] a9 := g9
 have h10 : (RInt .i64) w [c10] a10 := g10
 have h11 : (RInt .i64) w [c11] a11 := g11
 have h12 : RType w [c12, c13] a12 := g12
 obtain ⟨v0, e0, h0⟩ := h0
 obtain rfl := (List.cons.inj e0).1
 have e1 := h1
 obtain rfl := (List.cons.inj e1).1
 obtain ⟨v2, e2, h2⟩ := h2
 obtain rfl := (List.cons.inj e2).1
 obtain ⟨v3, e3, h3⟩ := h3
 obtain rfl := (List.cons.inj e3).1
 obtain ⟨v4, e4, h4⟩ := h4
 obtain rfl := (List.cons.inj e4).1
 obtain ⟨v5, e5, h5⟩ := h5
 obtain rfl := (List.cons.inj e5).1
 obtain ⟨v6, e6, h6⟩ := h6
 obtain rfl := (List.cons.inj e6).1
 have e7 := h7
 obtain rfl := (List.cons.inj e7).1
 have e8 := h8
 obtain rfl := (List.cons.inj e8).1
 obtain ⟨e9, h9⟩ := h9
 obtain rfl := (List.cons.inj e9).1
 obtain ⟨e10, h10⟩ := h10
 obtain rfl := (List.cons.inj e10).1
 obtain ⟨e11, h11⟩ := h11
 obtain rfl := (List.cons.inj e11).1
 have e12 := h12
 simp only [RType, List.cons.injEq, and_true] at e12
 obtain ⟨rfl, rfl⟩ := e12
 have p0 : (a0.map mTy).sum ≤ Rows.uptoBulk y0.1 := q0
 have p1 : a1.size + 1 ≤ Rows.uptoBulk y1.1 := q1
 have p2 : (a2.map mSm).sum ≤ Rows.uptoBulk y2.1 := q2
 have p3 : (a3.map mMp).sum ≤ Rows.uptoBulk y3.1 := q3
 have p4 : (a4.map mLc).sum ≤ Rows.uptoBulk y4.1 := q4
 have p5 : (a5.map mFn).sum ≤ Rows.uptoBulk y5.1 := q5
 have p6 : (a6.map (fun s : ByteArray => s.size + 1)).sum ≤ Rows.uptoBulk y6.1 := q6
 have p7 : a7.size + 1 ≤ Rows.uptoBulk y7.1 := q7
 have p8 : a8.size + 1 ≤ Rows.uptoBulk y8.1 := q8
 have p9 : 0 ≤ Rows.uptoBulk y9.1 := q9
 have p10 : 0 ≤ Rows.uptoBulk y10.1 := q10
 have p11 : 0 ≤ Rows.uptoBulk y11.1 := q11
 have p12 : (a12.ty.size + 1) + (a12.unit.size + 1) ≤ Rows.uptoBulk y12.1 := q12
 refine ⟨⟨a0, a1, a2, a3, a4, a5, a6, a7, a8, a9, a10, a11, a12⟩, ⟨_, _, _, _, _, _, rfl, h0, h2, h3, h4, h5, h6, h9, h10, h11⟩, ?_⟩
 refine Nat.le_trans ?_ hq
 simp only [mPf]; rw [show mTy ⟨a12.ty, a12.unit⟩ = (a12.ty.size + 1) + (a12.unit.size + 1) from rfl]; omega
end
/-- behind a call that made new memory only: what was handed in reads as it did -/
theorem sameOf {W W' : World} (k : Fr 0 [] W W') {p : MemPlace} (hp : p.block < W.heap.size) : W.sameAt W' p := by
 have h : W'.heap[p.block]? = W.heap[p.block]? := by
  obtain ⟨o, ho⟩ : ∃ o, W.heap[p.block]? = some o := ⟨_, Array.getElem?_eq_getElem hp⟩
  rw [ho, k.keep _ o ho (.inr (by simp))]
 cases p with
 | cell b off =>
  show W'.cell? ⟨b, off, none⟩ = W.cell? ⟨b, off, none⟩
  unfold World.cell?
  have h : W'.heap[b]? = W.heap[b]? := h
  simp only [h]
 | map b => exact h
theorem keptOf {W W' : World} (k : Fr 0 [] W W') (may : MemPlace → Prop) : W.keptBut W' may := by
 refine ⟨k.os, k.output, fun i hi => ?_⟩
 obtain ⟨o, ho⟩ : ∃ o, W.heap[i]? = some o := ⟨_, Array.getElem?_eq_getElem hi⟩
 rw [ho, k.keep _ o ho (.inr (by simp))]
 cases o <;> simp
end Go.Proofs.YtifnhinopjgfaaaGreat
