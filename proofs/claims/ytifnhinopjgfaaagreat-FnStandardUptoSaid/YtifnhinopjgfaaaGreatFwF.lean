/-
  Slices that the code itself makes: literals, make, append, copy. Conditions: bounds on lengths, as each lemma states them.
-/
import Derived.Test.YtifnhinopjgfaaaGreatFwE
namespace Go.Fw
open Go

/-- 'y' is what lies behind a slice of 'l' elements of 'sz' cells each, the elements' cells being 'xs' -/
def SlE (y : Ent) (p : Option Addr) (l c sz : Nat) (xs : List Value) : Prop :=
 xs.length = l * sz ∧ l ≤ c ∧ ((y.on = true ∧ p = some ⟨y.b, 0, none⟩ ∧ (∃ ex, y.cs = xs ++ ex) ∧ y.cs.length = c * sz) ∨ (y.on = false ∧ p = none ∧ c = 0))

theorem SlE.on {y : Ent} {p : Option Addr} {l c sz : Nat} {xs : List Value} (h : SlE y p l c sz xs) (hl : 0 < l) : y.on = true := by
 obtain ⟨_, h2, h3⟩ := h
 rcases h3 with h3 | h3
 ·exact h3.1
 ·omega

theorem setL_append : ∀ (ys xs ex : List Value), ys.length ≤ ex.length → setL (xs ++ ex) xs.length ys = xs ++ ys ++ ex.drop ys.length
 | [], xs, ex, _ => by simp [setL]
 | y :: ys, xs, [], h => by simp at h
 | y :: ys, xs, z :: ex, h => by
  rw [setL]
  rw [show (xs ++ z :: ex).set xs.length y = (xs ++ [y]) ++ ex by simp]
  have := setL_append ys (xs ++ [y]) ex (by simpa using h)
  rw [show (xs ++ [y]).length = xs.length + 1 by simp] at this
  rw [this]
  simp

theorem growBy_le (m : Nat) : ∀ (r c : Nat), c ≤ 2 * m + 1000 → Builtin.growBy m r c ≤ 2 * m + 1000
 | 0, c, h => by simpa [Builtin.growBy] using h
 | r + 1, c, h => by
  simp only [Builtin.growBy]
  split
  ·exact h
  ·exact growBy_le m r _ (by omega)
theorem nextcap_le (m c : Nat) (h : c < m) : Builtin.nextslicecap m c ≤ 2 * m + 1000 := by
 unfold Builtin.nextslicecap
 split
 ·omega
 ·split
  ·omega
  ·exact growBy_le m _ _ (by omega)

theorem zeroCells_size (z : Array Value) (k : Nat) : (Builtin.zeroCells z k).size = k * z.size := by simp [Builtin.zeroCells]

/-- what an append asks of the element's type -/
structure ElT (P : Program) (T sz : Nat) (by_ : Nat) : Prop where
 hsz : ∀ w, (sizeOf T).run P w = .ok sz w
 hinf : ∃ ti : TypeInfo, (∀ w, (typeInfo T).run P w = .ok ti w) ∧ ti.bytes = by_
 hz : ∃ z : Value, (∀ w, (zeroValue T).run P w = .ok z w) ∧ z.cells.size = sz

/-- behind an append: the old block written in place, or a new one, or nothing at all -/
inductive AppW (w w' : World) (y y' : Ent) (n : Nat) (ys : List Value) : Prop
 | same (h : y' = y) (hw : w' = w) (hn : ys = [])
 | inplace (hon : y.on = true) (hb : y' = ⟨y.b, y.T, y'.cs, true, true, none⟩) (hu : Upd w w' y.b (.cells y'.cs.toArray y.T (0, 0))) (hs : y'.cs = setL y.cs n ys)
 | fresh (hy : y' = ⟨y'.b, y'.T, y'.cs, true, true, none⟩) (hn : New w w' y'.b (.cells y'.cs.toArray y'.T (0, 0)))

section
variable {P : Program}

theorem run_append {sT xT rt T sz by_ m l c : Nat} {dx : TypeDesc} {x : Value} {y : Ent} {p : Option Addr} {xs ys : List Value} {w : World} (hu : ∀ w, (underlying sT).run P w = .ok (.slice T) w) (hux : ∀ w, (underlying xT).run P w = .ok dx w)
  (hdx : (∃ e, dx = .slice e) ∨ dx = .string) (hT : ElT P T sz by_) (hby : by_ ≤ 1000) (hyT : y.T = T) (hy : y.on = true → Blk w y.b y.T y.cs) (hwr : y.wr = true) (hS : SlE y p l c sz xs)
  (hlen : ∀ w, (Builtin.lenOf x).run P w = .ok m w) (hx : ∀ w1 : World, (∀ (b : Nat) (o : Obj), w.heap[b]? = some o → w1.heap[b]? = some o) → (Builtin.firstCells sz m x).run P w1 = .ok ys.toArray w1) (hys : ys.length = m * sz) (hsc : ys.all scal = true) (hbig : l + m ≤ 100000000000) :
  ∃ y' p' c' w', (Builtin.append_ #[sT, xT] rt #[.slice p l c, x]).run P w = .ok (.slice p' (l + m) c') w' ∧ y'.T = T ∧ y'.wr = true ∧ SlE y' p' (l + m) c' sz (xs ++ ys) ∧ AppW w w' y y' xs.length ys := by
 obtain ⟨ti, hti, hby'⟩ := hT.hinf
 obtain ⟨z, hz, hzs⟩ := hT.hz
 obtain ⟨hl1, hl2, hS3⟩ := hS
 by_cases hroom : l + m ≤ c
 ·rcases hS3 with ⟨hon, rfl, ⟨ex, hcs⟩, hclen⟩ | ⟨hoff, rfl, rfl⟩
  ·have hexl : ys.length ≤ ex.length := by
    have : y.cs.length = xs.length + ex.length := by rw [hcs]; simp
    have h2 : (l + m) * sz ≤ c * sz := Nat.mul_le_mul_right _ hroom
    rw [Nat.add_mul] at h2
    omega
   have hadd : Addr.add ⟨y.b, 0, none⟩ (l * sz) = ⟨y.b, l * sz, none⟩ := by
    unfold Addr.add
    split
    ·rename_i h; rw [h]
    ·simp
   obtain ⟨w', hr, hup⟩ := run_storeCells (P := P) ys w y.cs (l * sz) 0 (hy hon) (by
    have : y.cs.length = xs.length + ex.length := by rw [hcs]; simp
    omega) hsc
   have hset : setL y.cs (l * sz + 0) ys = xs ++ ys ++ ex.drop ys.length := by
    rw [hcs, Nat.add_zero, ← hl1]; exact setL_append ys xs ex hexl
   rw [hset] at hup
   refine ⟨⟨y.b, T, xs ++ ys ++ ex.drop ys.length, true, true, none⟩, some ⟨y.b, 0, none⟩, c, w', ?_, rfl, rfl, ⟨by simp [hl1, hys, Nat.add_mul], hroom, .inl ⟨rfl, rfl, ⟨_, rfl⟩, ?_⟩⟩, .inplace hon (by simp [hyT]) ?_ (by rw [← hset, Nat.add_zero, hl1])⟩
   ·simp only [Builtin.append_]
    have hx0 := hx w (fun _ _ h => h)
    rcases hdx with ⟨e, rfl⟩ | rfl
    ·simp [hu, hux, hT.hsz, hlen, hroom, hadd, hx0, hr]
    ·simp [hu, hux, hT.hsz, hlen, hroom, hadd, hx0, hr]
   ·rw [← hclen, hcs]; simp; omega
   ·rw [hyT] at hup; rw [hyT]; exact hup
  ·have h0 : l = 0 := by omega
   have h1 : m = 0 := by omega
   subst h0; subst h1
   have hys0 : ys = [] := by cases ys <;> simp_all
   subst hys0
   have hxs0 : xs = [] := by cases xs <;> simp_all
   subst hxs0
   refine ⟨y, none, 0, w, ?_, hyT, hwr, ⟨by simp, by simp, .inr ⟨hoff, rfl, rfl⟩⟩, .same rfl rfl rfl⟩
   have hx0 := hx w (fun _ _ h => h)
   simp only [Builtin.append_]
   rcases hdx with ⟨e, rfl⟩ | rfl
   ·simp [hu, hux, hT.hsz, hlen, hx0]
   ·simp [hu, hux, hT.hsz, hlen, hx0]
 ·have hcap : ¬ (Builtin.nextslicecap (l + m) c * by_ > 2 ^ 48) := by
   have h1 := nextcap_le (l + m) c (by omega)
   have h2 : Builtin.nextslicecap (l + m) c * by_ ≤ (2 * (l + m) + 1000) * 1000 := Nat.mul_le_mul h1 hby
   have : (2 * (l + m) + 1000) * 1000 ≤ 2 ^ 48 := by omega
   omega
  let q := Question.appendCap (l + m) c T
  let c' := q.cut (w.tape w.drawn q)
  have hc' : l + m ≤ c' := by simp [c', q, Question.cut]
  let w1 : World := { w with drawn := w.drawn + 1 }
  have hold : (Builtin.firstCells sz l (.slice p l c)).run P w1 = .ok xs.toArray w1 := by
   rcases hS3 with ⟨hon, rfl, ⟨ex, hcs⟩, hclen⟩ | ⟨hoff, rfl, rfl⟩
   ·simp only [Builtin.firstCells]
    rw [← hl1]
    refine run_loadCells w1 xs 0 ?_
    intro j v hj
    have hb : Blk w1 y.b y.T y.cs := hy hon
    rw [Nat.zero_add, hb.cell, hcs]
    rw [List.getElem?_append_left (List.getElem?_eq_some_iff.1 hj).1]
    exact hj
   ·have hxs0 : xs = [] := by
     have : l = 0 := by omega
     subst this
     cases xs <;> simp_all
    subst hxs0
    simp [Builtin.firstCells]
  have hnew := hx w1 (fun _ _ h => h)
  let rest := Builtin.zeroCells z.cells (c' - (l + m))
  let w2 : World := { w1 with heap := w1.heap.push (.cells (xs.toArray ++ ys.toArray ++ rest) T) }
  refine ⟨⟨w.heap.size, T, xs ++ ys ++ rest.toList, true, true, none⟩, some ⟨w.heap.size, 0, none⟩, c', w2, ?_, rfl, rfl, ⟨by simp [hl1, hys, Nat.add_mul], hc', .inl ⟨rfl, rfl, ⟨_, rfl⟩, ?_⟩⟩, .fresh rfl ⟨rfl, rfl, rfl, rfl, ?_⟩⟩
  ·have hcap' : ¬ (2 ^ 48 < Builtin.nextslicecap (l + m) c * ti.bytes) := by rw [hby']; exact hcap
   simp only [Builtin.append_]
   have hold' : (Builtin.firstCells sz l (.slice p l c)).run P w.drew = .ok xs.toArray w.drew := hold
   have hnew' : (Builtin.firstCells sz m x).run P w.drew = .ok ys.toArray w.drew := hnew
   have hrow : ∀ (cells : Array Value) (w0 : World), (newRow T cells).run P w0 = .ok ⟨w0.heap.size, 0, none⟩ (w0.alloc (.cells cells T)) := fun cells w0 => rfl
   have hfo : (Question.appendCap (l + m) c T).forced = false := rfl
   have hi' : ¬ ((9223372036854775807 : Int) < (l : Int) + (m : Int) ∧ ti.bytes = 0) := by omega
   rcases hdx with ⟨e, rfl⟩ | rfl
   ·simp [hu, hux, hT.hsz, hlen, hroom, hti, hcap', hz, hold', hnew', hfo, hi', w1, w2, rest, c', q, hrow]
    congr 2
    apply Array.toList_inj.1
    simp
   ·simp [hu, hux, hT.hsz, hlen, hroom, hti, hcap', hz, hold', hnew', hfo, hi', w1, w2, rest, c', q, hrow]
    congr 2
    apply Array.toList_inj.1
    simp
  ·simp [hl1, hys, rest, zeroCells_size, hzs, ← Nat.add_mul]
   rw [show l + (m + (c' - (l + m))) = c' by omega]
  ·simp only [w2, w1]
   congr 2
   apply Array.toList_inj.1
   simp
end

theorem Hp.putNew {f : Fm} {w w' : World} {b T : Nat} {cs : List Value} : ∀ {H : Heap} {i : Nat}, Hp f w H → f.ok w → New w w' b (.cells cs.toArray T (0, 0)) → Hp f w' (putH H i ⟨b, T, cs, true, true, none⟩)
 | [], _, _, _, _ => trivial
 | x :: r, 0, h, hf, hn => by
  refine ⟨⟨fun _ => by simpa using hn.blk, fun o ho => by simp at ho⟩, fun _ _ => .inl (by rw [hn.num]; exact hf.size), ?_, h.2.2.2.mono fun y _ _ o hy => hn.keepO hy⟩
  intro _ y hy ho
  have := (h.2.2.2.has hy).lt ho
  have := hn.num
  simp only
  omega
 | x :: r, i + 1, h, hf, hn => by
  refine ⟨⟨fun ho => hn.keepB (h.1.row ho), fun o ho => hn.keepO (h.1.obj o ho)⟩, h.2.1, ?_, Hp.putNew h.2.2.2 hf hn⟩
  intro ho z hz hzo
  rcases mem_putH hz with rfl | hz
  ·have := h.1.lt ho
   have := hn.num
   simp only
   omega
  ·exact h.2.2.1 ho z hz hzo

theorem Hp.app {f : Fm} {w w' : World} {H : Heap} {i : Nat} {y y' : Ent} (h : Hp f w H) (hf : f.ok w) (hy : H[i]? = some y) (hob : y.ob = none) (hwr : y.wr = true) {n : Nat} {ys : List Value} (ha : AppW w w' y y' n ys) : Hp f w' (putH H i y') ∧ f.ok w' := by
 cases ha with
 | same h1 h2 _ =>
  subst h1; subst h2
  rw [putH_self hy]
  exact ⟨h, hf⟩
 | inplace hon hb hu _ =>
  have h1 := h.upd hy hon hu hob
  rw [setH_put hy] at h1
  rw [hwr, hon, hob] at h1
  rw [hb]
  exact ⟨h1, hf.upd (h.get hy hon) (h.may (List.mem_of_getElem? hy) hon hwr) hu⟩
 | fresh hy' hn =>
  rw [hy']
  exact ⟨h.putNew hf hn, hf.new hn⟩

section
variable {P : Program} {Q : Exit → Act → World → Prop} {n : Nat} {f : Fm} {e : Env} {H : Heap} {ops : Array Oper} {rest : List Oper} {d ty : Nat} {pos : String} {af : Array Edge}

theorem j_append {sT xT T sz by_ m l c : Nat} {dx : TypeDesc} {s x : Operand} {xv : Value} {y : Ent} {p : Option Addr} {xs ys : List Value} (i : Nat) (hy : H[i]? = some y) (hyT : y.T = T) (hob : y.ob = none) (hwr : y.wr = true)
  (hu : ∀ w, (underlying sT).run P w = .ok (.slice T) w) (hux : ∀ w, (underlying xT).run P w = .ok dx w) (hdx : (∃ e, dx = .slice e) ∨ dx = .string) (hT : ElT P T sz by_) (hby : Nat.ble by_ 1000 = true)
  (hs : ev e s = some (.slice p l c)) (hxv : ev e x = some xv) (hS : SlE y p l c sz xs) (hlen : ∀ w, (Builtin.lenOf xv).run P w = .ok m w)
  (hx : ∀ w w1 : World, Hp f w H → f.ok w → (∀ (b : Nat) (o : Obj), w.heap[b]? = some o → w1.heap[b]? = some o) → (Builtin.firstCells sz m xv).run P w1 = .ok ys.toArray w1) (hys : ys.length = m * sz) (hsc : ys.all scal = true) (hbig : l + m ≤ 100000000000) (hd : Nat.blt d n = true)
  (k : ∀ y' p' c', y'.T = T → y'.wr = true → y'.ob = none → SlE y' p' (l + m) c' sz (xs ++ ys) → J P ops Q n f ((d, .slice p' (l + m) c') :: e) (putH H i y') rest) :
  J P ops Q n f e H (⟨some d, .call ⟨.builtin .append, #[s, x], #[sT, xT]⟩, ty, pos, af, none⟩ :: rest) := fun w hH hf => by
 obtain ⟨y', p', c', w', hr, h1, h2, h3, h4⟩ := run_append (rt := ty) hu hux hdx hT (by simpa using hby) hyT (fun ho => hH.get hy ho) hwr hS hlen (fun w1 hk => hx w w1 hH hf hk) hys hsc hbig
 obtain ⟨h5, h6⟩ := hH.app hf hy hob hwr h4
 refine L.valw hd (fun a ha => ?_) (k y' p' c' h1 h2 (by cases h4 with | same h _ _ => rw [h]; exact hob | inplace _ h _ _ => rw [h] | fresh h _ => rw [h]) h3 w' h5 h6)
 simp only [execOp, resolve]
 simp [invoke, builtin, ha.ev hs, ha.ev hxv, hr]

/-- a counter's step -/
theorem r_inc {t t' : Nat} {x y : Operand} {i : Nat} (hi : i < 9223372036854775807) (hx : ev e x = some (.int .i64 (i : Int))) (hy : ev e y = some (.int .i64 1)) {a : Act} {w : World} (ha : Sat n e a) :
  (execOp a.eval ⟨some d, .binOp .add t x y t', ty, pos, af, none⟩).run P w = .ok (.value (.int .i64 ((i + 1 : Nat) : Int))) w := by
 rw [r_add hx hy ha]
 congr 3
 simp [IntKind.wrap, IntKind.bits, IntKind.signed]
 omega

theorem lenOf_slice (p : Option Addr) (l c : Nat) (w : World) : (Builtin.lenOf (.slice p l c)).run P w = .ok l w := rfl
theorem lenOf_string (s : ByteArray) (w : World) : (Builtin.lenOf (.string s)).run P w = .ok s.size w := rfl
/-- the cells of a slice that lies in a known block -/
theorem fc_blk {sz m c : Nat} {b T o : Nat} {cs ys : List Value} {w : World} (hb : Blk w b T cs) (h : (cs.drop o).take (m * sz) = ys) (hl : ys.length = m * sz) : (Builtin.firstCells sz m (.slice (some ⟨b, o, none⟩) m c)).run P w = .ok ys.toArray w := by
 simp only [Builtin.firstCells]
 rw [← hl]
 refine run_loadCells w ys o ?_
 subst h
 exact hb.mid o _
/-- append(s, v): the one new element lies in the heap's first block -/
theorem j_append1 {sT T sz by_ l c : Nat} {s x : Operand} {y : Ent} {p : Option Addr} {xs ys : List Value} {bz Tz : Nat} (i : Nat) (hy : H[i]? = some y) (hyT : y.T = T) (hob : y.ob = none) (hwr : y.wr = true)
  (hu : ∀ w, (underlying sT).run P w = .ok (.slice T) w) (hT : ElT P T sz by_) (hby : Nat.ble by_ 1000 = true)
  (hs : ev e s = some (.slice p l c)) (hxv : ev e x = some (.slice (some ⟨bz, 0, none⟩) 1 1)) (hS : SlE y p l c sz xs)
  (hys : Nat.beq ys.length sz = true) (hsc : ys.all scal = true) (hbig : l + 1 ≤ 100000000000) (hd : Nat.blt d n = true)
  (k : ∀ y' p' c', y'.T = T → y'.wr = true → y'.ob = none → SlE y' p' (l + 1) c' sz (xs ++ ys) → J P ops Q n f ((d, .slice p' (l + 1) c') :: e) (putH H i y') rest) :
  J P ops Q n f e (⟨bz, Tz, ys, true, true, none⟩ :: H) (⟨some d, .call ⟨.builtin .append, #[s, x], #[sT, sT]⟩, ty, pos, af, none⟩ :: rest) := by
 have hys' := Nat.eq_of_beq_eq_true hys
 refine j_append (H := ⟨bz, Tz, ys, true, true, none⟩ :: H) (ys := ys) (m := 1) (i + 1) (by simpa using hy) hyT hob hwr hu hu (.inl ⟨_, rfl⟩) hT hby hs hxv hS (lenOf_slice _ _ _) ?_ (by omega) hsc hbig hd ?_
 ·intro w w1 hH _ hk
  have hb : Blk w bz Tz ys := hH.1.row rfl
  exact fc_blk (show Blk w1 bz Tz ys from hk _ _ hb) (by rw [List.drop_zero, List.take_of_length_le (by omega)]) (by omega)
 ·intro y' p' c' h1 h2 h3 h4
  exact J.heap (putH H i y') (fun w hH _ => hH.2.2.2) (k y' p' c' h1 h2 h3 h4)

theorem run_newRow (T : Nat) (cells : Array Value) (w : World) : (newRow T cells).run P w = .ok ⟨w.heap.size, 0, none⟩ { w with heap := w.heap.push (.cells cells T) } := rfl
theorem run_buildSlice1 {t T sz : Nat} {v z : Value} (hu : ∀ w, (underlying t).run P w = .ok (.slice T) w) (hsz : ∀ w, (sizeOf T).run P w = .ok sz w) (hz : ∀ w, (zeroValue T).run P w = .ok z w) (hv : v.cells.size = sz) (h0 : 0 < sz) (hbig : sz ≤ 1000) (w : World) :
  (Instr.buildSlice t 1 #[(0, v)]).run P w = .ok (.slice (some ⟨w.heap.size, 0, none⟩) 1 1) { w with heap := w.heap.push (.cells v.cells T) } := by
 have hfill : Instr.fill (fun i => some (i * sz, sz)) ((Array.range (1 * sz)).map (fun i => z.cells[i % z.cells.size]!)) [(0, v)] = some v.cells := by
  simp only [Instr.fill, Nat.zero_mul]
  have hc : ¬ ((v.cells.size ≠ sz || 0 + v.cells.size > ((Array.range (1 * sz)).map (fun i => z.cells[i % z.cells.size]!)).size) = true) := by
   simp [hv]
  rw [if_neg hc]
  have h2 := foldl_setL v.cells.toList ((Array.range (1 * sz)).map (fun i => z.cells[i % z.cells.size]!)).toList 0 0
  have h3 := setL_append v.cells.toList [] ((Array.range (1 * sz)).map (fun i => z.cells[i % z.cells.size]!)).toList (by simp [hv])
  simp only [List.nil_append, List.length_nil] at h3
  rw [← Array.foldl_toList, Array.toList_zipIdx]
  simp only [Nat.zero_add] at h2 ⊢
  rw [Array.toArray_toList] at h2
  rw [h2, h3]
  rw [List.drop_of_length_le (by simp [hv])]
  simp
 have hgt : ¬ (2 ^ 24 < 1 * sz) := by omega
 have hn0 : ¬ (1 * sz = 0) := by omega
 simp only [Instr.buildSlice]
 simp only [Sem.run_bind, hu, Result.andThen_ok, hsz, Sem.run_ite, if_neg hgt, if_neg hn0, hz, Sem.run_pure, gt_iff_lt]
 rw [hfill]
 rfl
theorem j_bslice1 {t T sz : Nat} {x : Operand} {v z : Value} (hu : ∀ w, (underlying t).run P w = .ok (.slice T) w) (hsz : ∀ w, (sizeOf T).run P w = .ok sz w) (hz : ∀ w, (zeroValue T).run P w = .ok z w) (hx : ev e x = some v)
  (hv : Nat.beq v.cells.size sz = true) (h0 : Nat.blt 0 sz = true) (hbig : Nat.ble sz 1000 = true) (hd : Nat.blt d n = true)
  (k : ∀ b, J P ops Q n f ((d, .slice (some ⟨b, 0, none⟩) 1 1) :: e) (⟨b, T, v.cells.toList, true, true, none⟩ :: H) rest) : J P ops Q n f e H (⟨some d, .buildSlice t 1 #[(0, x)], ty, pos, af, none⟩ :: rest) := fun w hH hf => by
 have hr := run_buildSlice1 (P := P) hu hsz hz (Nat.eq_of_beq_eq_true hv) (by simpa using h0) (by simpa using hbig) w
 have hn : New w { w with heap := w.heap.push (.cells v.cells T) } w.heap.size (.cells v.cells T (0, 0)) := ⟨rfl, rfl, rfl, rfl, rfl⟩
 refine L.valw hd (fun a ha => ?_) (k w.heap.size _ (hH.new hf hn) (hf.new hn))
 simp only [execOp]
 simp [ha.ev hx, hr]
theorem j_bslice0 {t T sz : Nat} (hu : ∀ w, (underlying t).run P w = .ok (.slice T) w) (hsz : ∀ w, (sizeOf T).run P w = .ok sz w) (hd : Nat.blt d n = true)
  (k : ∀ b, J P ops Q n f ((d, .slice (some ⟨b, 0, none⟩) 0 0) :: e) (⟨b, T, [], true, true, none⟩ :: H) rest) : J P ops Q n f e H (⟨some d, .buildSlice t 0 #[], ty, pos, af, none⟩ :: rest) := fun w hH hf => by
 have hn : New w { w with heap := w.heap.push (.cells #[] T) } w.heap.size (.cells #[] T (0, 0)) := ⟨rfl, rfl, rfl, rfl, rfl⟩
 refine L.valw hd (fun a ha => ?_) (k w.heap.size _ (hH.new hf hn) (hf.new hn))
 simp only [execOp, Instr.buildSlice]
 simp [hu, hsz, Instr.fill, run_newRow]
 congr 2
 apply Array.toList_inj.1
 simp

theorem run_makeSlice {t T sz by_ l c : Nat} (hu : ∀ w, (underlying t).run P w = .ok (.slice T) w) (hT : ElT P T sz by_) (hby : by_ ≤ 1000) (hlc : l ≤ c) (hbig : c ≤ 100000000000) (w : World) :
  ∃ cs : List Value, (Instr.makeSlice t (.int .i64 l) (.int .i64 c)).run P w = .ok (.slice (some ⟨w.heap.size, 0, none⟩) l c) { w with heap := w.heap.push (.cells cs.toArray T) } ∧ cs.length = c * sz ∧
   (∀ z : Value, (∀ w, (zeroValue T).run P w = .ok z w) → cs = (List.range (c * sz)).map (fun i => z.cells[i % z.cells.size]!)) := by
 obtain ⟨ti, hti, hby'⟩ := hT.hinf
 obtain ⟨z, hz, hzs⟩ := hT.hz
 refine ⟨(List.range (c * sz)).map (fun i => z.cells[i % z.cells.size]!), ?_, by simp, ?_⟩
 ·have hwl : IntKind.i64.wrap (l : Int) = l := by simp [IntKind.wrap, IntKind.bits, IntKind.signed]; omega
  have hwc : IntKind.i64.wrap (c : Int) = c := by simp [IntKind.wrap, IntKind.bits, IntKind.signed]; omega
  have hmul : by_ * c ≤ 1000 * 100000000000 := Nat.mul_le_mul hby hbig
  have hcond : ((decide ((c : Int) < 0) || decide ((ti.bytes : Int) * (c : Int) > 2 ^ 48)) || decide ((l : Int) < 0) || decide ((l : Int) > (c : Int))) = false := by
   rw [hby']
   simp only [Bool.or_eq_false_iff, decide_eq_false_iff_not]
   refine ⟨⟨⟨by omega, ?_⟩, by omega⟩, by omega⟩
   rw [← Int.natCast_mul]
   omega
  have hask : ∀ k w, (askRoom k).run P w = .ok () w := by
   intro k w
   unfold askRoom
   split <;> rfl
  simp only [Instr.makeSlice]
  simp only [Sem.run_bind, hu, Result.andThen_ok, asInt, asIntOf, Sem.run_pure, hti, hwl, hwc, hcond, Bool.false_eq_true, if_false, hask, hT.hsz, Int.toNat_natCast]
  by_cases h0 : c * sz = 0
  ·simp [h0, run_newRow]
   congr 2
   apply Array.toList_inj.1
   simp
  ·simp [h0, hz, run_newRow]
   congr 3
   apply Array.toList_inj.1
   simp
 ·intro z' hz'
  have h1 := (hz w).symm.trans (hz' w)
  simp at h1
  rw [h1]
theorem j_make {t T sz by_ l c : Nat} {x y : Operand} (hu : ∀ w, (underlying t).run P w = .ok (.slice T) w) (hT : ElT P T sz by_) (hby : Nat.ble by_ 1000 = true) (hx : ev e x = some (.int .i64 l)) (hy : ev e y = some (.int .i64 c)) (hlc : l ≤ c) (hbig : c ≤ 100000000000) (hd : Nat.blt d n = true)
  (k : ∀ b cs, cs.length = c * sz → (∀ z : Value, (∀ w, (zeroValue T).run P w = .ok z w) → cs = (List.range (c * sz)).map (fun i => z.cells[i % z.cells.size]!)) →
   J P ops Q n f ((d, .slice (some ⟨b, 0, none⟩) l c) :: e) (⟨b, T, cs, true, true, none⟩ :: H) rest) : J P ops Q n f e H (⟨some d, .makeSlice t x y, ty, pos, af, none⟩ :: rest) := fun w hH hf => by
 obtain ⟨cs, hr, h1, h2⟩ := run_makeSlice (P := P) hu hT (by simpa using hby) hlc hbig w
 have hn : New w { w with heap := w.heap.push (.cells cs.toArray T) } w.heap.size (.cells cs.toArray T (0, 0)) := ⟨rfl, rfl, rfl, rfl, rfl⟩
 refine L.valw hd (fun a ha => ?_) (k w.heap.size cs h1 h2 _ (hH.new hf hn) (hf.new hn))
 simp only [execOp]
 simp [ha.ev hx, ha.ev hy, hr]
end
end Go.Fw
