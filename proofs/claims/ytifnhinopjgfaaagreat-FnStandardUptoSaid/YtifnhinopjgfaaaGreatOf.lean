/-
  What impl.of makes of a plain profile. Conditions: the profile is plain data in memory, and well formed.
-/
import Derived.Test.YtifnhinopjgfaaaGreatGp
import Derived.Test.YtifnhinopjgfaaaGreatWell
namespace Go.Proofs.YtifnhinopjgfaaaGreat
open Go Go.Fw Go.Proofs Go.Proofs.Tryz
theorem typeOf_c (w : World) (cs : List Value) (t : PType) (h : RType w cs t) : Calls Tryz.prog 53 #[.agg cs.toArray] w (Ret fun v w' => ∃ p, v = .pointer (some ⟨p, 0, none⟩) ∧ Blk w' p tVT (cVT t) ∧ w.heap.size ≤ p ∧ Fr 0 [] w w') := by
 unfold RType at h
 subst h
 refine startJ (args := [_]) [(0, _)] 0 [] [] func53 rfl ntmps53 rfl rfl .nil ?_
 refine cj_seqF fun K1 hK1 => cj_reg ?_
 refine j_boxA (vs := [_, _]) rfl rfl fun b1 => ?_
 refine jA rfl rfl (j_nil (ej_then (hK1 _ _ _ (CJ.s [(1, _)] ⟨rfl, trivial⟩ (cj_seqF fun K2 hK2 => cj_reg (j_val rfl (fun _ _ h => r_fl (q := 0) (ft := 9) runUnderlying29 rfl sizeOf9 rfl h) (j_valw rfl (fun a w ha hH hf => r_ldH 0 rfl rfl isAgg9 rfl rfl ha hH) (j_val rfl (fun _ _ h => r_fl (q := 1) (ft := 9) runUnderlying29 rfl sizeOf9 rfl h) (j_valw rfl (fun a w ha hH hf => r_ldH 0 rfl rfl isAgg9 rfl rfl ha hH) (j_val rfl (fun _ _ h => r_build (cs := [_, _, (.int .i64 0), (.int .i64 0)]) bt159 rfl rfl h) ?_))))))))))
 refine j_boxA (vs := [_, _, _, _]) rfl rfl fun b8 => ?_
 refine jA rfl rfl (j_nil (ej_then (hK2 _ _ _ (CJ.s [(2, _)] ⟨rfl, trivial⟩ (cj_ret (?_))))))
 exact ej_ret1 results53 rfl fun w' hH hf => ⟨b8, rfl, hH.get (i := 0) rfl rfl, hH.fresh (i := 0) rfl rfl rfl, hf⟩

/-! ### texts in their order -/
theorem bless_irrefl : ∀ a : List UInt8, Op.bytesLess a a = false
 | [] => rfl
 | x :: r => by simp [Op.bytesLess, bless_irrefl r]
theorem bless_trans : ∀ a b c : List UInt8, Op.bytesLess a b = true → Op.bytesLess b c = true → Op.bytesLess a c = true
 | _, [], _, h, _ => by cases ‹List UInt8› <;> simp [Op.bytesLess] at h
 | _, _ :: _, [], _, h => by simp [Op.bytesLess] at h
 | [], _ :: _, _ :: _, _, _ => by simp [Op.bytesLess]
 | x :: a, y :: b, z :: c, h1, h2 => by
  simp only [Op.bytesLess, Bool.or_eq_true, decide_eq_true_eq, Bool.and_eq_true, beq_iff_eq] at h1 h2 ⊢
  rcases h1 with h1 | ⟨rfl, h1⟩
  ·rcases h2 with h2 | ⟨rfl, h2⟩
   ·exact .inl (UInt8.lt_trans h1 h2)
   ·exact .inl h1
  ·rcases h2 with h2 | ⟨rfl, h2⟩
   ·exact .inl h2
   ·exact .inr ⟨rfl, bless_trans a b c h1 h2⟩
theorem ltB_irrefl (a : ByteArray) : ltB a a = false := bless_irrefl _
theorem ltB_trans {a b c : ByteArray} (h1 : ltB a b = true) (h2 : ltB b c = true) : ltB a c = true := bless_trans _ _ _ h1 h2
theorem asc_lt {ks : List ByteArray} (h : ∀ (i : Nat) t u, ks[i]? = some t → ks[i + 1]? = some u → ltB t u = true) : ∀ (d i : Nat) t u, ks[i]? = some t → ks[i + d + 1]? = some u → ltB t u = true
 | 0, i, t, u, h1, h2 => h i t u h1 h2
 | d + 1, i, t, u, h1, h2 => by
  have hl := (List.getElem?_eq_some_iff.1 h2).1
  have h3 : ks[i + d + 1]? = some (ks[i + d + 1]'(by omega)) := List.getElem?_eq_getElem (by omega)
  exact ltB_trans (asc_lt h d i t _ h1 h3) (h (i + d + 1) _ u h3 (by rw [← h2]; congr 1))
theorem asc_new {ks : List ByteArray} (h : ∀ (i : Nat) t u, ks[i]? = some t → ks[i + 1]? = some u → ltB t u = true) {k : Nat} {u : ByteArray} (hu : ks[k]? = some u) : u ∉ ks.take k := by
 intro hm
 obtain ⟨i, hi⟩ := List.mem_iff_getElem?.1 hm
 rw [List.getElem?_take] at hi
 split at hi
 ·rename_i hlt
  have := asc_lt h (k - i - 1) i u u hi (by rw [show i + (k - i - 1) + 1 = k by omega]; exact hu)
  rw [ltB_irrefl] at this
  cases this
 ·cases hi

/-! ### labels -/
theorem mset_new {κ : Type} [DecidableEq κ] : ∀ {ms : List (κ × Value)} {k : κ} {v : Value}, k ∉ ms.map (·.1) → mset ms k v = ms ++ [(k, v)]
 | [], _, _, _ => rfl
 | (k', u) :: r, k, v, h => by
  simp only [List.map_cons, List.mem_cons, not_or] at h
  simp only [mset, if_neg h.1, mset_new h.2, List.cons_append]
def LabI (T : Nat) (w : World) (mo : Option Nat) (ent : Ent) (ks : List (ByteArray × List Value)) (k : Nat) : Prop :=
 (k = 0 ∧ mo = none ∧ ent = nilE 0) ∨ ∃ mb es ck ms, mo = some mb ∧ ent = mpE mb es ck ∧ MEnc Value.string ms es ck ∧ ms.map (·.1) = (ks.take k).map (·.1) ∧ ∀ (i : Nat) m q, ms[i]? = some m → ks[i]? = some q → OS T 1 w m.2 q.2
theorem LabI.push {T : Nat} {w : World} {ks : List (ByteArray × List Value)} {k mb ck : Nat} {ms : List (ByteArray × Value)} {es : List MapEntry} {key : ByteArray} {v : Value} (hk : k < ks.length) (hM : MEnc Value.string (mset ms key v) es ck)
  (hkeys : ms.map (·.1) = (ks.take k).map (·.1)) (hos : ∀ (i : Nat) m q, ms[i]? = some m → ks[i]? = some q → OS T 1 w m.2 q.2) (hkey : ks[k].1 = key) (hnew : key ∉ (ks.take k).map (·.1)) (hv : OS T 1 w v ks[k].2) : LabI T w (some mb) (mpE mb es ck) ks (k + 1) := by
 rw [mset_new (by rw [hkeys]; exact hnew)] at hM
 have hlen : ms.length = k := by have := congrArg List.length hkeys; simp at this; omega
 refine .inr ⟨mb, es, ck, _, rfl, rfl, hM, by rw [← List.take_append_getElem hk, List.map_append, List.map_append, hkeys, List.map_cons, List.map_nil, List.map_cons, List.map_nil, hkey], fun i m q hm hq => ?_⟩
 by_cases hi : i < k
 ·rw [List.getElem?_append_left (by omega)] at hm
  exact hos i m q hm hq
 ·have hlt := (List.getElem?_eq_some_iff.1 hm).1
  simp at hlt
  have : i = k := by omega
  subst this
  rw [List.getElem?_append_right (by omega)] at hm
  simp [hlen] at hm
  rw [List.getElem?_eq_getElem hk] at hq
  simp at hq
  subst hm; subst hq
  exact hv
theorem LabI.mono {T : Nat} {w w' : World} {mo : Option Nat} {ent : Ent} {ks : List (ByteArray × List Value)} {k : Nat} (h : LabI T w mo ent ks k) (hk : ∀ b cs, Blk w b T cs → Blk w' b T cs) : LabI T w' mo ent ks k := by
 rcases h with h | ⟨mb, es, ck, ms, h1, h2, h3, h4, h5⟩
 ·exact .inl h
 ·exact .inr ⟨mb, es, ck, ms, h1, h2, h3, h4, fun i m q hm hq => (h5 i m q hm hq).mono hk⟩
theorem LabI.done {T : Nat} {w : World} {mo : Option Nat} {ent : Ent} {ks : List (ByteArray × List Value)} {f : Fm} {H : Heap} {k : Nat} (i : Nat) (h : LabI T w mo ent ks k) (hk : k = ks.length) (hH : Hp f w H) (hi : H[i]? = some ent) : LabM T w (.map mo) ks := by
 subst hk
 rcases h with ⟨h1, rfl, -⟩ | ⟨mb, es, ck, ms, rfl, rfl, h3, h4, h5⟩
 ·exact .inl ⟨List.eq_nil_of_length_eq_zero h1, rfl⟩
 ·rw [List.take_of_length_le (Nat.le_refl _)] at h4
  exact .inr ⟨mb, es, ck, ms, rfl, hH.obj hi rfl, h3, h4, h5⟩
theorem LabI.tag {T : Nat} {w : World} {mo : Option Nat} {ent : Ent} {ks : List (ByteArray × List Value)} {k : Nat} (h : LabI T w mo ent ks k) (he : ent.ex = true) : ent.tag = 1000000 := by
 rcases h with ⟨-, -, rfl⟩ | ⟨mb, es, ck, ms, -, rfl, -⟩
 ·simp [Ent.ex, nilE] at he
 ·rfl
theorem LabI.some {T : Nat} {w : World} {mo : Option Nat} {ent : Ent} {ks : List (ByteArray × List Value)} {k : Nat} (h : LabI T w mo ent ks k) (hn : mo.isNone = false) : ∃ mb es ck ms, mo = some mb ∧ ent = mpE mb es ck ∧ MEnc Value.string ms es ck ∧ ms.map (·.1) = (ks.take k).map (·.1) ∧ ∀ (i : Nat) m q, ms[i]? = some m → ks[i]? = some q → OS T 1 w m.2 q.2 := by
 rcases h with ⟨-, rfl, -⟩ | h
 ·cases hn
 ·exact h
theorem LabI.none {T : Nat} {w : World} {mo : Option Nat} {ent : Ent} {ks : List (ByteArray × List Value)} {k : Nat} (h : LabI T w mo ent ks k) (hn : mo.isNone = true) : k = 0 ∧ mo = none ∧ ent = nilE 0 := by
 rcases h with h | ⟨_, _, _, _, rfl, -⟩
 ·exact h
 ·cases hn
theorem labT_new {x : PSample} (h : LabP x) {k : Nat} (hk : k < x.texts.length) : x.texts[k].key ∉ ((labT x).take k).map (·.1) := by
 have h1 : ((labT x).take k).map (·.1) = (x.texts.map (·.key)).take k := by simp [labT, List.map_take, Function.comp_def]
 rw [h1]
 refine asc_new (fun i t u ht hu => ?_) (k := k) (by simp [hk])
 rw [List.getElem?_map] at ht hu
 obtain ⟨a, ha, rfl⟩ := Option.map_eq_some_iff.1 ht
 obtain ⟨c, hc, rfl⟩ := Option.map_eq_some_iff.1 hu
 exact h.tasc i a c ha hc
theorem labN_new {x : PSample} (h : LabP x) {k : Nat} (hk : k < x.nums.length) : x.nums[k].key ∉ ((labN x).take k).map (·.1) := by
 have h1 : ((labN x).take k).map (·.1) = (x.nums.map (·.key)).take k := by simp [labN, List.map_take, Function.comp_def]
 rw [h1]
 refine asc_new (fun i t u ht hu => ?_) (k := k) (by simp [hk])
 rw [List.getElem?_map] at ht hu
 obtain ⟨a, ha, rfl⟩ := Option.map_eq_some_iff.1 ht
 obtain ⟨c, hc, rfl⟩ := Option.map_eq_some_iff.1 hu
 exact h.nasc i a c ha hc
set_option maxHeartbeats 1000000 in
theorem implLabeled_c (wd w : World) (b : Nat) (ls vs : Value) (cs : List Value) (x : PSample) (h : RSample wd cs x) (hkd : Keep wd w) (hbd : wd.heap.size ≤ b) (hx : LabP x) (hb : Blk w b tSam (cSam ls vs (.map none) (.map none))) :
  Calls Tryz.prog 54 #[ptr b, .agg cs.toArray] w (Ret fun _ w' => (∃ lm nm, Blk w' b tSam (cSam ls vs lm nm) ∧ LabM tStr w' lm (labT x) ∧ LabM tI64 w' nm (labN x)) ∧ Fr b [tSam, 1000000] w w') := by
 obtain ⟨la, lb, lt, lu, rfl, hla, hlb', hlt, hlu⟩ := h
 obtain ⟨p1, c1, rfl, -, -⟩ := hla.open
 obtain ⟨p2, c2, rfl, -, -⟩ := hlb'.open
 obtain ⟨p3, c3, rfl, hl3, hx3⟩ := hlt.open
 obtain ⟨p4, c4, rfl, hl4, hx4⟩ := hlu.open
 have hlb := hb.lt
 have hKd := keepOf (W := [tSam, 1000000]) hkd hbd
 refine startJ (args := [_, _]) [(0, _), (1, _)] b [tSam, 1000000] [⟨b, tSam, cSam ls vs (.map none) (.map none), true, true, none⟩] func54 rfl ntmps54 rfl rfl (Hp.nil.add hb (fun _ => .inr ⟨Nat.le_refl _, by simp⟩) (by simp)) ?_
 refine cj_seqF fun K1 hK1 => cj_reg ?_
 refine j_boxA (vs := [_, _, _, _]) rfl rfl fun b3 => ?_
 refine j_nil (ej_then (hK1 _ _ _ (CJ.s [(0, _), (3, _)] ⟨rfl, rfl, trivial⟩ (cj_seqF fun K2 hK2 => cj_seqF fun K3 hK3 => cj_reg (j_val rfl (fun _ _ h => r_fl (q := 2) (ft := 47) runUnderlying50 rfl sizeOf47 rfl h) (j_valw rfl (fun a w ha hH hf => r_ldH 0 rfl rfl isAgg47 rfl rfl ha hH) (j_val rfl (fun _ _ h => r_len runUnderlying47 rfl h) (jM rfl rfl (j_nil (ej_then (hK3 _ _ _ (CJ.s [(0, _), (3, _), (9, _), (10, _), (11, _)] ⟨rfl, rfl, rfl, rfl, rfl, trivial⟩ (cj_block ?_)))))))))))))
 -- LOOP 0 live [0, 3, 9, 10, 11]
 refine cj_loop (σ := Nat × Option Nat × Ent) (fun s => [(0, ptr b), (3, ptr b3), (9, .slice p3 x.texts.length c3), (10, .int .i64 (x.texts.length : Nat)), (11, .int .i64 (s.1 : Nat))])
  (fun s => [s.2.2, ⟨b3, 50, [.slice p1 x.stack.length c1, .slice p2 x.values.length c2, .slice p3 x.texts.length c3, .slice p4 x.nums.length c4], false, true, none⟩, ⟨b, tSam, cSam ls vs (.map s.2.1) (.map none), true, true, none⟩])
  (fun s w => s.1 ≤ x.texts.length ∧ LabI tStr w s.2.1 s.2.2 (labT x) s.1)
  (fun s => x.texts.length - s.1) (0, none, nilE 0) ⟨rfl, rfl, rfl, rfl, rfl, trivial⟩ (fun w hH hf => ⟨hH.roHead.off, Nat.zero_le _, .inl ⟨rfl, rfl, rfl⟩⟩) ?_
 rintro ⟨k, mo, ent⟩ w1 ⟨hk, hI⟩ hf1 hH1 KL hKL
 have hKd := keepOf (W := [tSam, 1000000]) (hKd _ hf1) hbd
 have hH1' := hH1.again (W := [tSam, 1000000]) (Nat.le_of_lt hlb) (by
  intro z hz he hw
  simp only [List.mem_cons, List.not_mem_nil, or_false] at hz
  rcases hz with rfl | rfl | rfl
  ·rw [hI.tag he]; simp
  ·cases hw
  ·simp [Ent.tag])
 refine C.begin ⟨w1, b, [tSam, 1000000]⟩ [ent, _, ⟨b, tSam, cSam ls vs (.map mo) (.map none), true, true, none⟩] ok_refl hH1' ?_
 refine CJ.s [(0, _), (3, _), (9, _), (10, _), (11, .int .i64 (k : Nat))] ⟨rfl, rfl, rfl, rfl, rfl, trivial⟩ (cj_seqF fun K4 hK4 => cj_reg (j_val rfl (fun _ _ h => r_lss rfl rfl h) (j_nil (ej_then (hK4 _ _ _ (CJ.s [(0, _), (3, _), (9, _), (10, _), (11, _), (12, _)] ⟨rfl, rfl, rfl, rfl, rfl, rfl, trivial⟩ (cj_seqF fun K5 hK5 => ?_)))))))
 refine cj_dec rfl (fun h12 => ?_) (fun h12 => ?_)
 ·have hk' : k < x.texts.length := by omega
  obtain ⟨q, o, cs, rfl, hcs, ⟨l1, rfl, hl1⟩, hcell⟩ := hx3 k x.texts[k] (List.getElem?_eq_getElem hk')
  obtain ⟨p5, c5, rfl, hl5, -⟩ := hl1.open
  have hlen5 := (hx.tl x.texts[k] (List.getElem_mem hk')).2.1
  refine cj_skip (ej_then (hK5 _ _ _ (CJ.s [(0, _), (3, _), (9, _), (10, _), (11, _)] ⟨rfl, rfl, rfl, rfl, rfl, trivial⟩ (cj_seqF fun K6 hK6 => cj_block (cj_seqF fun K7 hK7 => cj_reg (j_val rfl (fun _ _ h => r_idx runUnderlying47 sizeOf96 rfl rfl (by omega) h) (j_valw rfl (fun a w ha hH hf => r_loadA isAgg96 sizeOf96 rfl rfl (hcell w (hKd _ hf)) ha) ?_)))))))
  refine j_allocA (zs := [(.string ⟨#[]⟩), (.slice none 0 0)]) zeroValue96 rfl fun b5 => ?_
  refine j_storeN (cs' := [_, _]) (H' := [_, _, _, _]) 0 rfl rfl rfl rfl sizeOf96 rfl rfl rfl rfl rfl rfl rfl ?_
  refine j_nil (ej_then (hK7 _ _ _ (CJ.s [(0, _), (3, _), (5, _), (9, _), (10, _), (11, _)] ⟨rfl, rfl, rfl, rfl, rfl, rfl, trivial⟩ (cj_seqF fun K8 hK8 => cj_seqF fun K9 hK9 => cj_reg (jM rfl rfl (jN rfl rfl (j_val rfl (fun _ _ h => r_fl (q := 2) (ft := 135) runUnderlying139 rfl sizeOf135 rfl h) (j_valw rfl (fun a w ha hH hf => r_ldH 3 rfl rfl isAgg135 rfl rfl ha hH) (j_val rfl (fun _ _ h => r_mneql underlying135 rfl h) (j_nil (ej_then (hK9 _ _ _ (CJ.s [(0, _), (3, _), (5, _), (9, _), (10, _), (11, _), (19, _)] ⟨rfl, rfl, rfl, rfl, rfl, rfl, rfl, trivial⟩ ?_)))))))))))))
  refine cj_if rfl (fun h19 => ?_) (fun h19 => ?_)
  ·obtain ⟨hk0, rfl, rfl⟩ := hI.none h19
   refine cj_reg (jM rfl rfl ?_)
   refine j_mkmap (fun _ h => by cases h) rfl fun b21 => ?_
   refine jN rfl rfl (j_val rfl (fun _ _ h => r_fl (q := 2) (ft := 135) runUnderlying139 rfl sizeOf135 rfl h) ?_)
   refine j_storeN (cs' := [_, _, _, _, _, _, _]) (H' := [_, _, _, _, _]) 4 rfl rfl rfl rfl sizeOf135 rfl rfl rfl rfl rfl rfl rfl ?_
   refine j_nil (ej_then (hK8 _ _ _ (CJ.s [(0, _), (3, _), (5, _), (9, _), (10, _), (11, _)] ⟨rfl, rfl, rfl, rfl, rfl, rfl, trivial⟩ ?_)))
   refine cj_drawI 11 [(0, true), (1, true), (2, true), (3, true), (4, true), (5, true), (7, true), (8, true), (6, false), (9, false), (10, false)] [1, 3, 4] rfl (by kernel_rfl) (by kernel_rfl) ?_
   refine dj_val rfl rfl (sub_of [1, 3, 4] rfl) (fun _ _ h => r_move rfl h) (dj_val rfl rfl (sub_of [1, 3, 4] rfl) (fun _ _ h => r_nil rfl h) (dj_val rfl rfl (sub_of [1, 3, 4] rfl) (fun _ _ h => r_fl (q := 2) (ft := 135) runUnderlying139 rfl sizeOf135 rfl h) (dj_ld rfl rfl (sub_of [1, 3, 4] rfl) (fun a w ha hS => r_ldS 2 rfl rfl isAgg135 rfl rfl ha hS) (dj_val rfl rfl (sub_of [1, 3, 4] rfl) (fun _ _ h => r_fl (q := 0) (ft := 9) runUnderlying96 rfl sizeOf9 rfl h) (dj_ld rfl rfl (sub_of [1, 3, 4] rfl) (fun a w ha hS => r_ldS 0 rfl rfl isAgg9 rfl rfl ha hS) (dj_val rfl rfl (sub_of [1, 3, 4] rfl) (fun _ _ h => r_fl (q := 1) (ft := 27) runUnderlying96 rfl sizeOf27 rfl h) (dj_ld rfl rfl (sub_of [1, 3, 4] rfl) (fun a w ha hS => r_ldS 0 rfl rfl isAgg27 rfl rfl ha hS) (dj_eff rfl fun K2 hK2 => ?_))))))))
   refine j_bslice0 runUnderlying27 sizeOf9 rfl fun b30 => ?_
   refine j_nil (ej_then (hK2 _ _ (.inr (sub_of [2, 4, 5] rfl)) ?_)); clear hK2 K2
   refine dj_eff rfl fun K2 hK2 => ?_
   refine j_appL 0 rfl Own.empty runUnderlying27 runUnderlying27 el9 rfl rfl rfl rfl (fun w hH hf w1 k1 => hl1.first1 (g := .string) (fun _ _ h => h) w1 ((hKd _ hf).trans k1)) (fun _ => rfl) (by omega) rfl fun y33 p33 c33 hO33 => ?_
   refine j_nil (ej_then (hK2 _ _ (.inr (sub_of [2, 4, 5] rfl)) ?_)); clear hK2 K2
   refine dj_eff rfl fun K2 hK2 => ?_
   first | refine j_mapupd (ms := []) (es := []) (k := x.texts[k].key) 1 rfl runUnderlying135 (keyT_string runUnderlying9) MEnc.nil rfl rfl rfl (fun _ _ _ => ⟨fun _ _ => trivial, trivial⟩) fun es' ck' hM' => ?_ | refine j_mapupd (k := x.texts[k].key) 2 rfl runUnderlying135 (keyT_string runUnderlying9) hM rfl rfl rfl (fun _ _ _ => ⟨fun _ _ => trivial, trivial⟩) fun es' ck' hM' => ?_
   refine j_nil (ej_then (hK2 _ _ (.inr (sub_of [2, 4, 5] rfl)) ?_)); clear hK2 K2
   refine dj_end (ej_blk (ej_then (hK6 _ _ _ (CJ.s [(0, _), (3, _), (9, _), (10, _), (11, _)] ⟨rfl, rfl, rfl, rfl, rfl, trivial⟩ (cj_reg (j_val rfl (fun _ _ h => r_inc (by omega) rfl rfl h) (jM rfl rfl (j_nil (ej_then ?_)))))))))
   have hkl : k < (labT x).length := by simpa [labT] using hk'
   first
   | exact fun w hH hf => hKL (k + 1, some b21, mpE b21 es' ck') _ w ⟨hk', LabI.push (ms := []) hkl hM' (by have hk0 : k = 0 := hk0; simp [hk0]) (by simp) (by simp [labT]) (labT_new hx hk') (by have := hO33.os (i := 0) hH rfl; simpa [labT] using this)⟩ (ok_back hf1 (.inr fun _ h => h) hf) (((hH.2.2.2.drop 1).drop 1).back hf1.size (.inr fun _ h => h)) (by simp only; omega) ⟨rfl, rfl, rfl, rfl, rfl, trivial⟩
   | exact fun w hH hf => hKL (k + 1, some mb, mpE mb es' ck') _ w ⟨hk', LabI.push hkl hM' hkeys (fun i m q hm hq => (hos i m q hm hq).mono fun _ _ hbk => ok_blk hf hbk rfl) (by simp [labT]) (labT_new hx hk') (by have := hO33.os (i := 0) hH rfl; simpa [labT] using this)⟩ (ok_back hf1 (.inr fun _ h => h) hf) (hH.2.2.2.2.2.2.back hf1.size (.inr fun _ h => h)) (by simp only; omega) ⟨rfl, rfl, rfl, rfl, rfl, trivial⟩
  ·obtain ⟨mb, es, ck, ms, rfl, rfl, hM, hkeys, hos⟩ := hI.some h19
   refine cj_skip (ej_then (hK8 _ _ _ (CJ.s [(0, _), (3, _), (5, _), (9, _), (10, _), (11, _)] ⟨rfl, rfl, rfl, rfl, rfl, rfl, trivial⟩ ?_)))
   refine cj_drawI 11 [(0, true), (1, true), (2, true), (3, true), (4, true), (5, true), (7, true), (8, true), (6, false), (9, false), (10, false)] [0, 2, 3] rfl (by kernel_rfl) (by kernel_rfl) ?_
   refine dj_val rfl rfl (sub_of [0, 2, 3] rfl) (fun _ _ h => r_move rfl h) (dj_val rfl rfl (sub_of [0, 2, 3] rfl) (fun _ _ h => r_nil rfl h) (dj_val rfl rfl (sub_of [0, 2, 3] rfl) (fun _ _ h => r_fl (q := 2) (ft := 135) runUnderlying139 rfl sizeOf135 rfl h) (dj_ld rfl rfl (sub_of [0, 2, 3] rfl) (fun a w ha hS => r_ldS 2 rfl rfl isAgg135 rfl rfl ha hS) (dj_val rfl rfl (sub_of [0, 2, 3] rfl) (fun _ _ h => r_fl (q := 0) (ft := 9) runUnderlying96 rfl sizeOf9 rfl h) (dj_ld rfl rfl (sub_of [0, 2, 3] rfl) (fun a w ha hS => r_ldS 0 rfl rfl isAgg9 rfl rfl ha hS) (dj_val rfl rfl (sub_of [0, 2, 3] rfl) (fun _ _ h => r_fl (q := 1) (ft := 27) runUnderlying96 rfl sizeOf27 rfl h) (dj_ld rfl rfl (sub_of [0, 2, 3] rfl) (fun a w ha hS => r_ldS 0 rfl rfl isAgg27 rfl rfl ha hS) (dj_eff rfl fun K2 hK2 => ?_))))))))
   refine j_bslice0 runUnderlying27 sizeOf9 rfl fun b30 => ?_
   refine j_nil (ej_then (hK2 _ _ (.inr (sub_of [1, 3, 4] rfl)) ?_)); clear hK2 K2
   refine dj_eff rfl fun K2 hK2 => ?_
   refine j_appL 0 rfl Own.empty runUnderlying27 runUnderlying27 el9 rfl rfl rfl rfl (fun w hH hf w1 k1 => hl1.first1 (g := .string) (fun _ _ h => h) w1 ((hKd _ hf).trans k1)) (fun _ => rfl) (by omega) rfl fun y33 p33 c33 hO33 => ?_
   refine j_nil (ej_then (hK2 _ _ (.inr (sub_of [1, 3, 4] rfl)) ?_)); clear hK2 K2
   refine dj_eff rfl fun K2 hK2 => ?_
   first | refine j_mapupd (ms := []) (es := []) (k := x.texts[k].key) 1 rfl runUnderlying135 (keyT_string runUnderlying9) MEnc.nil rfl rfl rfl (fun _ _ _ => ⟨fun _ _ => trivial, trivial⟩) fun es' ck' hM' => ?_ | refine j_mapupd (k := x.texts[k].key) 2 rfl runUnderlying135 (keyT_string runUnderlying9) hM rfl rfl rfl (fun _ _ _ => ⟨fun _ _ => trivial, trivial⟩) fun es' ck' hM' => ?_
   refine j_nil (ej_then (hK2 _ _ (.inr (sub_of [1, 3, 4] rfl)) ?_)); clear hK2 K2
   refine dj_end (ej_blk (ej_then (hK6 _ _ _ (CJ.s [(0, _), (3, _), (9, _), (10, _), (11, _)] ⟨rfl, rfl, rfl, rfl, rfl, trivial⟩ (cj_reg (j_val rfl (fun _ _ h => r_inc (by omega) rfl rfl h) (jM rfl rfl (j_nil (ej_then ?_)))))))))
   have hkl : k < (labT x).length := by simpa [labT] using hk'
   first
   | exact fun w hH hf => hKL (k + 1, some b21, mpE b21 es' ck') _ w ⟨hk', LabI.push (ms := []) hkl hM' (by have hk0 : k = 0 := hk0; simp [hk0]) (by simp) (by simp [labT]) (labT_new hx hk') (by have := hO33.os (i := 0) hH rfl; simpa [labT] using this)⟩ (ok_back hf1 (.inr fun _ h => h) hf) (((hH.2.2.2.drop 1).drop 1).back hf1.size (.inr fun _ h => h)) (by simp only; omega) ⟨rfl, rfl, rfl, rfl, rfl, trivial⟩
   | exact fun w hH hf => hKL (k + 1, some mb, mpE mb es' ck') _ w ⟨hk', LabI.push hkl hM' hkeys (fun i m q hm hq => (hos i m q hm hq).mono fun _ _ hbk => ok_blk hf hbk rfl) (by simp [labT]) (labT_new hx hk') (by have := hO33.os (i := 0) hH rfl; simpa [labT] using this)⟩ (ok_back hf1 (.inr fun _ h => h) hf) (hH.2.2.2.2.2.2.back hf1.size (.inr fun _ h => h)) (by simp only; omega) ⟨rfl, rfl, rfl, rfl, rfl, trivial⟩
 ·refine cj_exit (ej_then_exit (ej_then_exit (ej_blk_hit (ej_then (hK2 _ _ _ (CJ.s [(0, _), (3, _)] ⟨rfl, rfl, trivial⟩ (cj_seqF fun K10 hK10 => cj_reg (j_val rfl (fun _ _ h => r_fl (q := 3) (ft := 48) runUnderlying50 rfl sizeOf48 rfl h) (j_valw rfl (fun a w ha hH hf => r_ldH 1 rfl rfl isAgg48 rfl rfl ha hH) (j_val rfl (fun _ _ h => r_len runUnderlying48 rfl h) (jM rfl rfl (j_nil (ej_then (hK10 _ _ _ (CJ.s [(0, _), (36, _), (37, _), (38, _)] ⟨rfl, rfl, rfl, rfl, trivial⟩ (cj_block ?_))))))))))))))))
  -- LOOP 1 live [0, 36, 37, 38]
  refine cj_loop (σ := Nat × Option Nat × Ent) (fun s => [(0, ptr b), (36, .slice p4 x.nums.length c4), (37, .int .i64 (x.nums.length : Nat)), (38, .int .i64 (s.1 : Nat))])
   (fun s => [s.2.2, ent, ⟨b, tSam, cSam ls vs (.map mo) (.map s.2.1), true, true, none⟩])
   (fun s w => s.1 ≤ x.nums.length ∧ LabI tI64 w s.2.1 s.2.2 (labN x) s.1 ∧ LabI tStr w mo ent (labT x) k)
   (fun s => x.nums.length - s.1) (0, none, nilE 0) ⟨rfl, rfl, rfl, rfl, trivial⟩ (fun w hH hf => ⟨(hH.drop 1).off, Nat.zero_le _, .inl ⟨rfl, rfl, rfl⟩, hI.mono fun _ _ hbk => ok_blk hf hbk rfl⟩) ?_
  rintro ⟨m, mo2, ent2⟩ w2 ⟨hm, hI2, hI3⟩ hf2 hH2 KL hKL
  have hKd := keepOf (W := [tSam, 1000000]) (hKd _ hf2) hbd
  have hH2' := hH2.again (W := [tSam, 1000000]) (Nat.le_trans (Nat.le_of_lt hlb) hf1.size) (by
   intro z hz he hw
   simp only [List.mem_cons, List.not_mem_nil, or_false] at hz
   rcases hz with rfl | rfl | rfl
   ·rw [hI2.tag he]; simp
   ·rw [hI3.tag he]; simp
   ·simp [Ent.tag])
  refine C.begin ⟨w2, b, [tSam, 1000000]⟩ [ent2, ent, ⟨b, tSam, cSam ls vs (.map mo) (.map mo2), true, true, none⟩] ok_refl hH2' ?_
  refine CJ.s [(0, _), (36, _), (37, _), (38, .int .i64 (m : Nat))] ⟨rfl, rfl, rfl, rfl, trivial⟩ (cj_seqF fun K11 hK11 => cj_reg (j_val rfl (fun _ _ h => r_lss rfl rfl h) (j_nil (ej_then (hK11 _ _ _ (CJ.s [(0, _), (36, _), (37, _), (38, _), (39, _)] ⟨rfl, rfl, rfl, rfl, rfl, trivial⟩ (cj_seqF fun K12 hK12 => ?_)))))))
  refine cj_dec rfl (fun h39 => ?_) (fun h39 => ?_)
  ·have hm' : m < x.nums.length := by omega
   obtain ⟨q, o, cs, rfl, hcs, ⟨l1, rfl, hl1⟩, hcell⟩ := hx4 m x.nums[m] (List.getElem?_eq_getElem hm')
   obtain ⟨p5, c5, rfl, hl5, -⟩ := hl1.open
   have hlen5 := (hx.nl x.nums[m] (List.getElem_mem hm')).2
   refine cj_skip (ej_then (hK12 _ _ _ (CJ.s [(0, _), (36, _), (37, _), (38, _)] ⟨rfl, rfl, rfl, rfl, trivial⟩ (cj_seqF fun K13 hK13 => cj_block (cj_seqF fun K14 hK14 => cj_reg (j_val rfl (fun _ _ h => r_idx runUnderlying48 sizeOf99 rfl rfl (by omega) h) (j_valw rfl (fun a w ha hH hf => r_loadA isAgg99 sizeOf99 rfl rfl (hcell w (hKd _ hf)) ha) ?_)))))))
   refine j_allocA (zs := [(.string ⟨#[]⟩), (.slice none 0 0)]) zeroValue99 rfl fun b7 => ?_
   refine j_storeN (cs' := [_, _]) (H' := [_, _, _, _]) 0 rfl rfl rfl rfl sizeOf99 rfl rfl rfl rfl rfl rfl rfl ?_
   refine j_nil (ej_then (hK14 _ _ _ (CJ.s [(0, _), (7, _), (36, _), (37, _), (38, _)] ⟨rfl, rfl, rfl, rfl, rfl, trivial⟩ (cj_seqF fun K15 hK15 => cj_seqF fun K16 hK16 => cj_reg (jM rfl rfl (jN rfl rfl (j_val rfl (fun _ _ h => r_fl (q := 3) (ft := 136) runUnderlying139 rfl sizeOf136 rfl h) (j_valw rfl (fun a w ha hH hf => r_ldH 3 rfl rfl isAgg136 rfl rfl ha hH) (j_val rfl (fun _ _ h => r_mneql underlying136 rfl h) (j_nil (ej_then (hK16 _ _ _ (CJ.s [(0, _), (7, _), (36, _), (37, _), (38, _), (46, _)] ⟨rfl, rfl, rfl, rfl, rfl, rfl, trivial⟩ ?_)))))))))))))
   refine cj_if rfl (fun h46 => ?_) (fun h46 => ?_)
   ·obtain ⟨hm0, rfl, rfl⟩ := hI2.none h46
    refine cj_reg (jM rfl rfl ?_)
    refine j_mkmap (fun _ h => by cases h) rfl fun b48 => ?_
    refine jN rfl rfl (j_val rfl (fun _ _ h => r_fl (q := 3) (ft := 136) runUnderlying139 rfl sizeOf136 rfl h) ?_)
    refine j_storeN (cs' := [_, _, _, _, _, _, _]) (H' := [_, _, _, _, _]) 4 rfl rfl rfl rfl sizeOf136 rfl rfl rfl rfl rfl rfl rfl ?_
    refine j_nil (ej_then (hK15 _ _ _ (CJ.s [(0, _), (7, _), (36, _), (37, _), (38, _)] ⟨rfl, rfl, rfl, rfl, rfl, trivial⟩ ?_)))
    refine cj_drawI 11 [(0, true), (1, true), (2, true), (3, true), (4, true), (5, true), (7, true), (8, true), (6, false), (9, false), (10, false)] [1, 4] rfl (by kernel_rfl) (by kernel_rfl) ?_
    refine dj_val rfl rfl (sub_of [1, 4] rfl) (fun _ _ h => r_move rfl h) (dj_val rfl rfl (sub_of [1, 4] rfl) (fun _ _ h => r_nil rfl h) (dj_val rfl rfl (sub_of [1, 4] rfl) (fun _ _ h => r_fl (q := 3) (ft := 136) runUnderlying139 rfl sizeOf136 rfl h) (dj_ld rfl rfl (sub_of [1, 4] rfl) (fun a w ha hS => r_ldS 1 rfl rfl isAgg136 rfl rfl ha hS) (dj_val rfl rfl (sub_of [1, 4] rfl) (fun _ _ h => r_fl (q := 0) (ft := 9) runUnderlying99 rfl sizeOf9 rfl h) (dj_ld rfl rfl (sub_of [1, 4] rfl) (fun a w ha hS => r_ldS 0 rfl rfl isAgg9 rfl rfl ha hS) (dj_val rfl rfl (sub_of [1, 4] rfl) (fun _ _ h => r_fl (q := 1) (ft := 46) runUnderlying99 rfl sizeOf46 rfl h) (dj_ld rfl rfl (sub_of [1, 4] rfl) (fun a w ha hS => r_ldS 0 rfl rfl isAgg46 rfl rfl ha hS) (dj_eff rfl fun K2 hK2 => ?_))))))))
    refine j_bslice0 runUnderlying46 sizeOf2 rfl fun b57 => ?_
    refine j_nil (ej_then (hK2 _ _ (.inr (sub_of [2, 5] rfl)) ?_)); clear hK2 K2
    refine dj_eff rfl fun K2 hK2 => ?_
    refine j_appL 0 rfl Own.empty runUnderlying46 runUnderlying46 el2 rfl rfl rfl rfl (fun w hH hf w1 k1 => hl1.first1 (g := .int .i64) (fun _ _ h => h.1) w1 ((hKd _ hf).trans k1)) (fun _ => rfl) (by omega) rfl fun y60 p60 c60 hO60 => ?_
    refine j_nil (ej_then (hK2 _ _ (.inr (sub_of [2, 5] rfl)) ?_)); clear hK2 K2
    refine dj_eff rfl fun K2 hK2 => ?_
    first | refine j_mapupd (ms := []) (es := []) (k := x.nums[m].key) 1 rfl runUnderlying136 (keyT_string runUnderlying9) MEnc.nil rfl rfl rfl (fun _ _ _ => ⟨fun _ _ => trivial, trivial⟩) fun es' ck' hM' => ?_ | refine j_mapupd (k := x.nums[m].key) 2 rfl runUnderlying136 (keyT_string runUnderlying9) hM rfl rfl rfl (fun _ _ _ => ⟨fun _ _ => trivial, trivial⟩) fun es' ck' hM' => ?_
    refine j_nil (ej_then (hK2 _ _ (.inr (sub_of [2, 5] rfl)) ?_)); clear hK2 K2
    refine dj_end (ej_blk (ej_then (hK13 _ _ _ (CJ.s [(0, _), (36, _), (37, _), (38, _)] ⟨rfl, rfl, rfl, rfl, trivial⟩ (cj_reg (j_val rfl (fun _ _ h => r_inc (by omega) rfl rfl h) (jM rfl rfl (j_nil (ej_then ?_)))))))))
    have hkl : m < (labN x).length := by simpa [labN] using hm'
    first
    | exact fun w hH hf => hKL (m + 1, some b48, mpE b48 es' ck') _ w ⟨hm', LabI.push (ms := []) hkl hM' (by have hm0 : m = 0 := hm0; simp [hm0]) (by simp) (by simp [labN]) (labN_new hx hm') (by have := hO60.os (i := 0) hH rfl; simpa [labN] using this), hI3.mono fun _ _ hbk => ok_blk hf hbk rfl⟩ (ok_back hf2 (.inr fun _ h => h) hf) (((hH.2.2.2.drop 1).drop 1).back hf2.size (.inr fun _ h => h)) (by simp only; omega) ⟨rfl, rfl, rfl, rfl, trivial⟩
    | exact fun w hH hf => hKL (m + 1, some mb, mpE mb es' ck') _ w ⟨hm', LabI.push hkl hM' hkeys (fun i m q hm hq => (hos i m q hm hq).mono fun _ _ hbk => ok_blk hf hbk rfl) (by simp [labN]) (labN_new hx hm') (by have := hO60.os (i := 0) hH rfl; simpa [labN] using this), hI3.mono fun _ _ hbk => ok_blk hf hbk rfl⟩ (ok_back hf2 (.inr fun _ h => h) hf) (hH.2.2.2.2.2.2.back hf2.size (.inr fun _ h => h)) (by simp only; omega) ⟨rfl, rfl, rfl, rfl, trivial⟩
   ·obtain ⟨mb, es, ck, ms, rfl, rfl, hM, hkeys, hos⟩ := hI2.some h46
    refine cj_skip (ej_then (hK15 _ _ _ (CJ.s [(0, _), (7, _), (36, _), (37, _), (38, _)] ⟨rfl, rfl, rfl, rfl, rfl, trivial⟩ ?_)))
    refine cj_drawI 11 [(0, true), (1, true), (2, true), (3, true), (4, true), (5, true), (7, true), (8, true), (6, false), (9, false), (10, false)] [0, 3] rfl (by kernel_rfl) (by kernel_rfl) ?_
    refine dj_val rfl rfl (sub_of [0, 3] rfl) (fun _ _ h => r_move rfl h) (dj_val rfl rfl (sub_of [0, 3] rfl) (fun _ _ h => r_nil rfl h) (dj_val rfl rfl (sub_of [0, 3] rfl) (fun _ _ h => r_fl (q := 3) (ft := 136) runUnderlying139 rfl sizeOf136 rfl h) (dj_ld rfl rfl (sub_of [0, 3] rfl) (fun a w ha hS => r_ldS 1 rfl rfl isAgg136 rfl rfl ha hS) (dj_val rfl rfl (sub_of [0, 3] rfl) (fun _ _ h => r_fl (q := 0) (ft := 9) runUnderlying99 rfl sizeOf9 rfl h) (dj_ld rfl rfl (sub_of [0, 3] rfl) (fun a w ha hS => r_ldS 0 rfl rfl isAgg9 rfl rfl ha hS) (dj_val rfl rfl (sub_of [0, 3] rfl) (fun _ _ h => r_fl (q := 1) (ft := 46) runUnderlying99 rfl sizeOf46 rfl h) (dj_ld rfl rfl (sub_of [0, 3] rfl) (fun a w ha hS => r_ldS 0 rfl rfl isAgg46 rfl rfl ha hS) (dj_eff rfl fun K2 hK2 => ?_))))))))
    refine j_bslice0 runUnderlying46 sizeOf2 rfl fun b57 => ?_
    refine j_nil (ej_then (hK2 _ _ (.inr (sub_of [1, 4] rfl)) ?_)); clear hK2 K2
    refine dj_eff rfl fun K2 hK2 => ?_
    refine j_appL 0 rfl Own.empty runUnderlying46 runUnderlying46 el2 rfl rfl rfl rfl (fun w hH hf w1 k1 => hl1.first1 (g := .int .i64) (fun _ _ h => h.1) w1 ((hKd _ hf).trans k1)) (fun _ => rfl) (by omega) rfl fun y60 p60 c60 hO60 => ?_
    refine j_nil (ej_then (hK2 _ _ (.inr (sub_of [1, 4] rfl)) ?_)); clear hK2 K2
    refine dj_eff rfl fun K2 hK2 => ?_
    first | refine j_mapupd (ms := []) (es := []) (k := x.nums[m].key) 1 rfl runUnderlying136 (keyT_string runUnderlying9) MEnc.nil rfl rfl rfl (fun _ _ _ => ⟨fun _ _ => trivial, trivial⟩) fun es' ck' hM' => ?_ | refine j_mapupd (k := x.nums[m].key) 2 rfl runUnderlying136 (keyT_string runUnderlying9) hM rfl rfl rfl (fun _ _ _ => ⟨fun _ _ => trivial, trivial⟩) fun es' ck' hM' => ?_
    refine j_nil (ej_then (hK2 _ _ (.inr (sub_of [1, 4] rfl)) ?_)); clear hK2 K2
    refine dj_end (ej_blk (ej_then (hK13 _ _ _ (CJ.s [(0, _), (36, _), (37, _), (38, _)] ⟨rfl, rfl, rfl, rfl, trivial⟩ (cj_reg (j_val rfl (fun _ _ h => r_inc (by omega) rfl rfl h) (jM rfl rfl (j_nil (ej_then ?_)))))))))
    have hkl : m < (labN x).length := by simpa [labN] using hm'
    first
    | exact fun w hH hf => hKL (m + 1, some b48, mpE b48 es' ck') _ w ⟨hm', LabI.push (ms := []) hkl hM' (by have hm0 : m = 0 := hm0; simp [hm0]) (by simp) (by simp [labN]) (labN_new hx hm') (by have := hO60.os (i := 0) hH rfl; simpa [labN] using this), hI3.mono fun _ _ hbk => ok_blk hf hbk rfl⟩ (ok_back hf2 (.inr fun _ h => h) hf) (((hH.2.2.2.drop 1).drop 1).back hf2.size (.inr fun _ h => h)) (by simp only; omega) ⟨rfl, rfl, rfl, rfl, trivial⟩
    | exact fun w hH hf => hKL (m + 1, some mb, mpE mb es' ck') _ w ⟨hm', LabI.push hkl hM' hkeys (fun i m q hm hq => (hos i m q hm hq).mono fun _ _ hbk => ok_blk hf hbk rfl) (by simp [labN]) (labN_new hx hm') (by have := hO60.os (i := 0) hH rfl; simpa [labN] using this), hI3.mono fun _ _ hbk => ok_blk hf hbk rfl⟩ (ok_back hf2 (.inr fun _ h => h) hf) (hH.2.2.2.2.2.2.back hf2.size (.inr fun _ h => h)) (by simp only; omega) ⟨rfl, rfl, rfl, rfl, trivial⟩
  ·refine cj_exit (ej_then_exit (ej_then_exit (ej_blk_hit (?_))))
   refine ej_end0 results54 fun w' hH hf => ⟨⟨.map mo, .map mo2, hH.get (i := 2) rfl rfl, ?_, ?_⟩, ok_back hf1 (.inr fun _ h => h) (ok_back hf2 (.inr fun _ h => h) hf)⟩
   ·exact (hI3.mono fun _ _ hbk => ok_blk hf hbk rfl).done 1 (by simp [labT]; omega) hH rfl
   ·exact (hI2.mono fun _ _ hbk => ok_blk hf hbk rfl).done 0 (by simp [labN]; omega) hH rfl

theorem flatMap_step {α β : Type} {xs : List α} {g : α → List β} {k : Nat} (hk : k < xs.length) : (xs.take k).flatMap g ++ g xs[k] = (xs.take (k + 1)).flatMap g := by
 rw [← List.take_append_getElem hk, List.flatMap_append]; simp
theorem rowGe_own {w4 w' : World} {B : Nat} {W : List Nat} {H : Heap} {y : Ent} {p : Option Addr} {j c : Nat} {xs : List Value} {maps : List Nat} {l : PLoc} (hO : Own tLine 3 y p j c xs) (hH : Hp ⟨w4, B, W⟩ w' H) {i : Nat} (hy : H[i]? = some y) (hs : B ≤ w4.heap.size) :
  ∀ rb n c', (cLoc maps l (.slice p j c))[3]? = some (.slice (some ⟨rb, 0, none⟩) n c') → B ≤ rb := by
 intro rb n c' e
 simp [cLoc] at e
 obtain ⟨e1, -, -⟩ := e
 obtain ⟨-, -, q⟩ := hO.sl
 rcases q with ⟨hon, q, -⟩ | ⟨-, q, -⟩
 ·rw [e1] at q
  cases q
  rcases hH.may (List.mem_of_getElem? hy) hon hO.hw with h | ⟨h, -⟩
  ·exact Nat.le_trans hs h
  ·exact h
 ·rw [e1] at q; cases q
-- the profile's own block while it is made
def eProf (b41 : Nat) (x : PProf) (ty sa ma lo fu co : Value) (per : Nat) : Ent := ⟨b41, tProf, cProf x ty sa ma lo fu co per, true, true, none⟩
set_option maxHeartbeats 4000000 in
theorem of_c (w : World) (cs : List Value) (x : PProf) (h : RProf w cs x) (hx : WellP x) :
  Calls Tryz.prog 27 #[.agg cs.toArray] w (Ret fun v w' => (∃ g, v = ptr g.pb ∧ OfP w.heap.size w' x g) ∧ Fr 0 [] w w') := by
 obtain ⟨la, lsa, lm, ll, lf, lcm, rfl, hla, hls, hlm, hll, hlf, hlc, -⟩ := h
 obtain ⟨pt, ct, rfl, -, hxt⟩ := hla.open
 obtain ⟨ps, csm, rfl, -, hxs⟩ := hls.open
 obtain ⟨pm, cm, rfl, -, hxm⟩ := hlm.open
 obtain ⟨pl, cl, rfl, -, hxl⟩ := hll.open
 obtain ⟨pf, cf, rfl, -, hxf⟩ := hlf.open
 obtain ⟨pc, cc, rfl, -, -⟩ := hlc.open
 have hKd := fun W => keepOf (W := W) (Keep.refl w) (Nat.le_refl _)
 have n1 := hx.ntyp
 have n2 := hx.nsam
 have n3 := hx.ncom
 have n4 := hx.tab.m.2.2
 have n5 := hx.tab.f.2.2
 have n6 := hx.tab.l.2.2
 simp only [List.length_map] at n4 n5 n6
 refine startJ (args := [_]) [(0, _)] w.heap.size [] [] func27 rfl ntmps27 rfl rfl .nil ?_
 refine cj_seqF fun K1 hK1 => cj_reg ?_
 refine j_boxA (vs := [_, _, _, _, _, _, _, _, _, _, _, _, _, _]) rfl rfl fun b1 => ?_
 refine jA rfl rfl (j_nil (ej_then (hK1 _ _ _ (CJ.s [(1, _)] ⟨rfl, trivial⟩ (cj_seqF fun K2 hK2 => ?_)))))
 refine cj_drawI 22 [(0, true), (1, true), (3, true), (4, true), (6, true), (7, true), (8, true), (9, true), (10, true), (11, true), (12, true), (13, true), (14, true), (15, true), (16, true), (17, true), (2, false), (5, false), (18, false), (19, true), (20, false), (21, true)] [0] rfl (by kernel_rfl) (by kernel_rfl) ?_
 refine dj_val rfl rfl (sub_of [0] rfl) (fun _ _ h => r_fl (q := 1) (ft := 9) runUnderlying31 rfl sizeOf9 rfl h) (dj_ld rfl rfl (sub_of [0] rfl) (fun a w ha hS => r_ldS 0 rfl rfl isAgg9 rfl rfl ha hS) (dj_val rfl rfl (sub_of [0] rfl) (fun _ _ h => r_fl (q := 6) (ft := 27) runUnderlying31 rfl sizeOf27 rfl h) (dj_ld rfl rfl (sub_of [0] rfl) (fun a w ha hS => r_ldS 0 rfl rfl isAgg27 rfl rfl ha hS) (dj_val rfl rfl (sub_of [0] rfl) (fun _ _ h => r_fl (q := 7) (ft := 9) runUnderlying31 rfl sizeOf9 rfl h) (dj_ld rfl rfl (sub_of [0] rfl) (fun a w ha hS => r_ldS 0 rfl rfl isAgg9 rfl rfl ha hS) (dj_val rfl rfl (sub_of [0] rfl) (fun _ _ h => r_fl (q := 8) (ft := 9) runUnderlying31 rfl sizeOf9 rfl h) (dj_ld rfl rfl (sub_of [0] rfl) (fun a w ha hS => r_ldS 0 rfl rfl isAgg9 rfl rfl ha hS) (dj_val rfl rfl (sub_of [0] rfl) (fun _ _ h => r_fl (q := 9) (ft := 2) runUnderlying31 rfl sizeOf2 rfl h) (dj_ld rfl rfl (sub_of [0] rfl) (fun a w ha hS => r_ldS 0 rfl rfl isAgg2 rfl rfl ha hS) (dj_val rfl rfl (sub_of [0] rfl) (fun _ _ h => r_fl (q := 10) (ft := 2) runUnderlying31 rfl sizeOf2 rfl h) (dj_ld rfl rfl (sub_of [0] rfl) (fun a w ha hS => r_ldS 0 rfl rfl isAgg2 rfl rfl ha hS) (dj_val rfl rfl (sub_of [0] rfl) (fun _ _ h => r_fl (q := 11) (ft := 2) runUnderlying31 rfl sizeOf2 rfl h) (dj_ld rfl rfl (sub_of [0] rfl) (fun a w ha hS => r_ldS 0 rfl rfl isAgg2 rfl rfl ha hS) ?_)))))))))))))
 refine dj_val rfl rfl (sub_of [0] rfl) (fun _ _ h => r_fl (q := 12) (ft := 29) runUnderlying31 rfl sizeOf29 rfl h) (dj_ld rfl rfl (sub_of [0] rfl) (fun a w ha hS => r_ldSA (vs := [_, _]) 0 rfl rfl isAgg29 sizeOf29 rfl rfl rfl ha hS) (dj_eff rfl fun K2 hK2 => ?_))
 refine j_bslice0 runUnderlying27 sizeOf9 rfl fun b23 => ?_
 refine j_nil (ej_then (hK2 _ _ (.inr (sub_of [1] rfl)) ?_)); clear hK2 K2
 refine dj_eff rfl fun K2 hK2 => ?_
 refine j_appL 0 rfl Own.empty runUnderlying27 runUnderlying27 el9 rfl rfl rfl rfl (fun w hH hf w1 k1 => hlc.first1 (g := .string) (fun _ _ h => h) w1 ((hKd _ _ hf).trans k1)) (fun _ => rfl) (by omega) rfl fun y26 p26 c26 hO26 => ?_
 refine j_nil (ej_then (hK2 _ _ (.inr (sub_of [1] rfl)) ?_)); clear hK2 K2
 refine dj_eff rfl fun K2 hK2 => ?_
 refine j_callN (T := tVT) (cs := cVT x.per) call53 rfl rfl (fun w hH hf => typeOf_c w _ x.per rfl) fun b39 => ?_
 refine j_nil (ej_then (hK2 _ _ (.inr (sub_of [2] rfl)) ?_)); clear hK2 K2
 refine dj_val rfl rfl (sub_of [2] rfl) (fun _ _ h => r_build (cs := [(.slice none 0 0), _, (.slice none 0 0), (.slice none 0 0), (.slice none 0 0), (.slice none 0 0), _, _, _, _, _, _, _, (.slice none 0 0), (.int .i64 0), (.int .i64 0), (.slice none 0 0), (.int .i64 0)]) bt121 rfl rfl h) (dj_eff rfl fun K2 hK2 => ?_)
 refine j_boxA (vs := [_, _, _, _, _, _, _, _, _, _, _, _, _, _, _, _, _, _]) rfl rfl fun b41 => ?_
 refine j_nil (ej_then (hK2 _ _ (.inr (sub_of [3] rfl)) ?_)); clear hK2 K2
 refine dj_val rfl rfl (sub_of [3] rfl) (fun _ _ h => r_assign rfl h) (dj_end (ej_then (hK2 _ _ _ (CJ.s [(1, _), (3, _)] ⟨rfl, rfl, trivial⟩ (cj_seqF fun K3 hK3 => cj_seqF fun K4 hK4 => cj_reg (j_val rfl (fun _ _ h => r_fl (q := 0) (ft := 22) runUnderlying31 rfl sizeOf22 rfl h) (j_valw rfl (fun a w ha hH hf => r_ldH 3 rfl rfl isAgg22 rfl rfl ha hH) (j_val rfl (fun _ _ h => r_len runUnderlying22 rfl h) (jM rfl rfl (j_nil (ej_then (hK4 _ _ _ (CJ.s [(1, _), (3, _), (43, _), (44, _), (45, _)] ⟨rfl, rfl, rfl, rfl, rfl, trivial⟩ ?_)))))))))))))
 refine cj_block ?_
 -- LOOP 0 live [1, 3, 43, 44, 45]
 refine cj_loop (σ := Nat × Ent × Option Addr × Nat × List Nat) (fun s => [(1, ptr b1), (3, ptr b41), (43, .slice pt x.types.length ct), (44, .int .i64 (x.types.length : Nat)), (45, .int .i64 (s.1 : Nat))])
  (fun s => [s.2.1, eProf b41 x (.slice s.2.2.1 s.1 s.2.2.2.1) (.slice none 0 0) (.slice none 0 0) (.slice none 0 0) (.slice none 0 0) (.slice p26 (0 + x.comments.length) c26) b39, ⟨b39, tVT, cVT x.per, false, true, none⟩, ro y26, ⟨b1, 31, [.slice pt x.types.length ct, .string x.deflt, .slice ps x.samples.length csm, .slice pm x.mappings.length cm, .slice pl x.locs.length cl, .slice pf x.funcs.length cf, .slice pc x.comments.length cc, .string x.drop, .string x.keep, .int .i64 x.time, .int .i64 x.dur, .int .i64 x.period, .string x.per.ty, .string x.per.unit], false, true, none⟩])
  (fun s w' => s.1 ≤ x.types.length ∧ Own pVT 1 s.2.1 s.2.2.1 s.1 s.2.2.2.1 (s.2.2.2.2.map ptr) ∧ Part (b39 + 1) w' s.2.2.2.2 (x.types.take s.1) φT ∧ (w.heap.size ≤ b39 ∧ w.heap.size ≤ b41 ∧ b39 < w'.heap.size))
  (fun s => x.types.length - s.1) (0, nilE pVT, none, 0, []) ⟨rfl, rfl, rfl, rfl, rfl, trivial⟩ (fun w' hH hf => ⟨hH.roTail.off, Nat.zero_le _, Own.nil, Part.nil, ⟨hH.fresh' (i := 1) rfl rfl, hH.fresh' (i := 0) rfl rfl, (hH.get (i := 1) rfl rfl).lt⟩⟩) ?_
 rintro ⟨kT, yT, pT, cT, bT⟩ w1 ⟨hk, hOT, hpT, hB39⟩ hf1 hH1 KLT hKLT
 have hs1 : w.heap.size ≤ w1.heap.size := hf1.size
 have hk1 : Keep w w1 := hKd _ _ hf1
 have hKd := fun W => keepOf (W := W) hk1 (Nat.le_refl _)
 have hH := hH1.again (W := [tProf, pVT, pMap, pFun, pLoc, pSam]) (Nat.le_refl _) (TagOK.own (.row (.ro (.ro (.ro .nil rfl) rfl) rfl) rfl) hOT rfl)
 refine C.begin ⟨w1, w.heap.size, [tProf, pVT, pMap, pFun, pLoc, pSam]⟩ [yT, eProf b41 x (.slice pT kT cT) (.slice none 0 0) (.slice none 0 0) (.slice none 0 0) (.slice none 0 0) (.slice p26 (0 + x.comments.length) c26) b39, ⟨b39, tVT, cVT x.per, false, true, none⟩, ro y26, ⟨b1, 31, [.slice pt x.types.length ct, .string x.deflt, .slice ps x.samples.length csm, .slice pm x.mappings.length cm, .slice pl x.locs.length cl, .slice pf x.funcs.length cf, .slice pc x.comments.length cc, .string x.drop, .string x.keep, .int .i64 x.time, .int .i64 x.dur, .int .i64 x.period, .string x.per.ty, .string x.per.unit], false, true, none⟩] ok_refl hH ?_
 refine CJ.s [(1, _), (3, _), (43, _), (44, _), (45, .int .i64 (kT : Nat))] ⟨rfl, rfl, rfl, rfl, rfl, trivial⟩ ?_
 clear hH
 refine cj_seqF fun K5 hK5 => cj_reg (j_val rfl (fun _ _ h => r_lss rfl rfl h) (j_nil (ej_then (hK5 _ _ _ (CJ.s [(1, _), (3, _), (43, _), (44, _), (45, _), (46, _)] ⟨rfl, rfl, rfl, rfl, rfl, rfl, trivial⟩ (cj_seqF fun K6 hK6 => ?_))))))
 refine cj_dec rfl (fun h46 => ?_) (fun h46 => ?_)
 ·have hkT : kT < x.types.length := by omega
  obtain ⟨qb, qo, cs, rfl, hcs, hR, hcell⟩ := hxt kT x.types[kT] (List.getElem?_eq_getElem hkT)
  unfold RType at hR
  subst hR
  refine cj_skip (ej_then (hK6 _ _ _ (CJ.s [(1, _), (3, _), (43, _), (44, _), (45, _)] ⟨rfl, rfl, rfl, rfl, rfl, trivial⟩ (cj_seqF fun K7 hK7 => cj_block (cj_seqF fun K8 hK8 => cj_reg (j_val rfl (fun _ _ h => r_idx runUnderlying22 sizeOf29 rfl rfl (by omega) h) (j_valw rfl (fun a w ha hH hf => r_loadA isAgg29 sizeOf29 rfl rfl (hcell w (hKd _ _ hf)) ha) ?_)))))))
  refine j_allocA (zs := [(.string ⟨#[]⟩), (.string ⟨#[]⟩)]) zeroValue29 rfl fun b5 => ?_
  refine j_storeN (cs' := [_, _]) (H' := [_, _, _, _, _, _]) 0 rfl rfl rfl rfl sizeOf29 rfl rfl rfl rfl rfl rfl rfl ?_
  refine j_nil (ej_then (hK8 _ _ _ (CJ.s [(1, _), (3, _), (5, _), (43, _), (44, _), (45, _)] ⟨rfl, rfl, rfl, rfl, rfl, rfl, trivial⟩ ?_)))
  refine cj_drawI 11 [(0, true), (1, true), (2, true), (3, true), (4, true), (5, true), (6, false), (7, false), (8, false), (9, true), (10, true), (11, false)] [0, 2] rfl (by kernel_rfl) (by kernel_rfl) ?_
  refine dj_val rfl rfl (sub_of [0, 2] rfl) (fun _ _ h => r_move rfl h) (dj_val rfl rfl (sub_of [0, 2] rfl) (fun _ _ h => r_move rfl h) (dj_val rfl rfl (sub_of [0, 2] rfl) (fun _ _ h => r_nil rfl h) (dj_val rfl rfl (sub_of [0, 2] rfl) (fun _ _ h => r_fl (q := 0) (ft := 115) runUnderlying121 rfl sizeOf115 rfl h) (dj_ld rfl rfl (sub_of [0, 2] rfl) (fun a w ha hS => r_ldS 1 rfl rfl isAgg115 rfl rfl ha hS) (dj_ld rfl rfl (sub_of [0, 2] rfl) (fun a w ha hS => r_ldSA (vs := [_, _]) 0 rfl rfl isAgg29 sizeOf29 rfl rfl rfl ha hS) (dj_eff rfl fun K2 hK2 => ?_))))))
  refine j_callN (T := tVT) (cs := cVT x.types[kT]) call53 rfl rfl (fun w hH hf => typeOf_c w _ x.types[kT] rfl) fun b55 => ?_
  refine j_nil (ej_then (hK2 _ _ (.inr (sub_of [1, 3] rfl)) ?_)); clear hK2 K2
  refine dj_eff rfl fun K2 hK2 => ?_
  refine j_bslice1 runUnderlying115 sizeOf113 zeroValue113 rfl rfl rfl rfl rfl fun b56 => ?_
  refine j_nil (ej_then (hK2 _ _ (.inr (sub_of [2, 4] rfl)) ?_)); clear hK2 K2
  refine dj_eff rfl fun K2 hK2 => ?_
  refine j_appO 2 rfl hOT runUnderlying115 el113 rfl rfl rfl rfl rfl (by omega) rfl fun y57 p57 c57 hO57 => ?_
  refine j_nil (ej_then (hK2 _ _ (.inr (sub_of [1, 3] rfl)) ?_)); clear hK2 K2
  refine dj_val rfl rfl (sub_of [1, 3] rfl) (fun _ _ h => r_nil rfl h) (dj_val rfl rfl (sub_of [1, 3] rfl) (fun _ _ h => r_fl (q := 0) (ft := 115) runUnderlying121 rfl sizeOf115 rfl h) (dj_eff rfl fun K2 hK2 => ?_))
  refine j_storeN (cs' := [_, _, _, _, _, _, _, _, _, _, _, _, _, _, _, _, _, _]) (H' := [_, _, _, _, _, _, _]) 3 rfl rfl rfl rfl sizeOf115 rfl rfl rfl rfl rfl rfl rfl ?_
  refine j_nil (ej_then (hK2 _ _ (.inl rfl) ?_)); clear hK2 K2
  refine dj_end (ej_blk (ej_then (hK7 _ _ _ (CJ.s [(1, _), (3, _), (43, _), (44, _), (45, _)] ⟨rfl, rfl, rfl, rfl, rfl, trivial⟩ (cj_reg (j_val rfl (fun _ _ h => r_inc (by omega) rfl rfl h) (jM rfl rfl (j_nil (ej_then ?_)))))))))
  exact fun w' hH hf => hKLT (kT + 1, y57, p57, c57, bT ++ [b55]) _ w' ⟨hkT, by rw [← ptrs_push]; exact hO57, hpT.push hkT hf.size (fun _ _ h => ok_blk hf h rfl) (hH.get (i := 0) rfl rfl) (hH.fresh' (i := 0) rfl rfl) hB39.2.2 (hH.get (i := 0) rfl rfl).lt, ⟨hB39.1, hB39.2.1, Nat.lt_of_lt_of_le hB39.2.2 hf.size⟩⟩ (ok_back hf1 (.inl (Nat.le_refl _)) hf) (hH.2.2.2.2.2.2.back hf1.size (.inl (Nat.le_refl _))) (by simp only; omega) ⟨rfl, rfl, rfl, rfl, rfl, trivial⟩
 ·have hPT := hpT.full (by omega)
  refine cj_exit (ej_then_exit (ej_then_exit (ej_blk_hit (ej_then (hK3 _ _ _ (CJ.s [(1, _), (3, _)] ⟨rfl, rfl, trivial⟩ (cj_seqF fun K9 hK9 => cj_seqF fun K10 hK10 => cj_reg (j_val rfl (fun _ _ h => r_fl (q := 3) (ft := 24) runUnderlying31 rfl sizeOf24 rfl h) (j_valw rfl (fun a w ha hH hf => r_ldH 4 rfl rfl isAgg24 rfl rfl ha hH) (j_val rfl (fun _ _ h => r_len runUnderlying24 rfl h) (jM rfl rfl (j_nil (ej_then (hK10 _ _ _ (CJ.s [(1, _), (3, _), (62, _), (63, _), (64, _)] ⟨rfl, rfl, rfl, rfl, rfl, trivial⟩ (cj_block ?_))))))))))))))))
  -- LOOP 1 live [1, 3, 62, 63, 64]
  refine cj_loop (σ := Nat × Ent × Option Addr × Nat × List Nat) (fun s => [(1, ptr b1), (3, ptr b41), (62, .slice pm x.mappings.length cm), (63, .int .i64 (x.mappings.length : Nat)), (64, .int .i64 (s.1 : Nat))])
   (fun s => [s.2.1, ro yT, eProf b41 x (.slice pT kT cT) (.slice none 0 0) (.slice s.2.2.1 s.1 s.2.2.2.1) (.slice none 0 0) (.slice none 0 0) (.slice p26 (0 + x.comments.length) c26) b39, ⟨b39, tVT, cVT x.per, false, true, none⟩, ro y26, ⟨b1, 31, [.slice pt x.types.length ct, .string x.deflt, .slice ps x.samples.length csm, .slice pm x.mappings.length cm, .slice pl x.locs.length cl, .slice pf x.funcs.length cf, .slice pc x.comments.length cc, .string x.drop, .string x.keep, .int .i64 x.time, .int .i64 x.dur, .int .i64 x.period, .string x.per.ty, .string x.per.unit], false, true, none⟩])
   (fun s w' => s.1 ≤ x.mappings.length ∧ Own pMap 1 s.2.1 s.2.2.1 s.1 s.2.2.2.1 (s.2.2.2.2.map ptr) ∧ Part w.heap.size w' s.2.2.2.2 (x.mappings.take s.1) φM ∧ (w.heap.size ≤ b39 ∧ w.heap.size ≤ b41 ∧ b39 < w'.heap.size) ∧ Part (b39 + 1) w' bT x.types φT)
   (fun s => x.mappings.length - s.1) (0, nilE pMap, none, 0, []) ⟨rfl, rfl, rfl, rfl, rfl, trivial⟩ (fun w' hH hf => ⟨Hp.off (hH.roHead), Nat.zero_le _, Own.nil, Part.nil, ⟨hB39.1, hB39.2.1, Nat.lt_of_lt_of_le hB39.2.2 hf.size⟩, hPT.mono hf.size (fun _ _ h => ok_blk hf h rfl)⟩) ?_
  rintro ⟨kM, yM, pM, cM, bM⟩ w2 ⟨hk, hOM, hpM, hB39, hPT⟩ hf2 hH2 KLM hKLM
  have hs2 : w.heap.size ≤ w2.heap.size := Nat.le_trans hs1 hf2.size
  have hk2 : Keep w w2 := hKd _ _ hf2
  have hKd := fun W => keepOf (W := W) hk2 (Nat.le_refl _)
  have hH := hH2.again (W := [tProf, pVT, pMap, pFun, pLoc, pSam]) hs1 (TagOK.own (.ro (.row (.ro (.ro (.ro .nil rfl) rfl) rfl) rfl) rfl) hOM rfl)
  refine C.begin ⟨w2, w.heap.size, [tProf, pVT, pMap, pFun, pLoc, pSam]⟩ [yM, ro yT, eProf b41 x (.slice pT kT cT) (.slice none 0 0) (.slice pM kM cM) (.slice none 0 0) (.slice none 0 0) (.slice p26 (0 + x.comments.length) c26) b39, ⟨b39, tVT, cVT x.per, false, true, none⟩, ro y26, ⟨b1, 31, [.slice pt x.types.length ct, .string x.deflt, .slice ps x.samples.length csm, .slice pm x.mappings.length cm, .slice pl x.locs.length cl, .slice pf x.funcs.length cf, .slice pc x.comments.length cc, .string x.drop, .string x.keep, .int .i64 x.time, .int .i64 x.dur, .int .i64 x.period, .string x.per.ty, .string x.per.unit], false, true, none⟩] ok_refl hH ?_
  refine CJ.s [(1, _), (3, _), (62, _), (63, _), (64, .int .i64 (kM : Nat))] ⟨rfl, rfl, rfl, rfl, rfl, trivial⟩ ?_
  clear hH
  refine cj_seqF fun K11 hK11 => cj_reg (j_val rfl (fun _ _ h => r_lss rfl rfl h) (j_nil (ej_then (hK11 _ _ _ (CJ.s [(1, _), (3, _), (62, _), (63, _), (64, _), (65, _)] ⟨rfl, rfl, rfl, rfl, rfl, rfl, trivial⟩ (cj_seqF fun K12 hK12 => ?_))))))
  refine cj_dec rfl (fun h65 => ?_) (fun h65 => ?_)
  ·have hkM : kM < x.mappings.length := by omega
   obtain ⟨qb, qo, cs, rfl, hcs, hR, hcell⟩ := hxm kM x.mappings[kM] (List.getElem?_eq_getElem hkM)
   obtain ⟨rfl, -⟩ := hR
   refine cj_skip (ej_then (hK12 _ _ _ (CJ.s [(1, _), (3, _), (62, _), (63, _), (64, _)] ⟨rfl, rfl, rfl, rfl, rfl, trivial⟩ (cj_seqF fun K13 hK13 => cj_block (cj_seqF fun K14 hK14 => cj_reg (j_val rfl (fun _ _ h => r_idx runUnderlying24 sizeOf70 rfl rfl (by omega) h) (j_valw rfl (fun a w ha hH hf => r_loadA isAgg70 sizeOf70 rfl rfl (hcell w (hKd _ _ hf)) ha) ?_)))))))
   refine j_allocA (zs := [(.int .u64 0), (.int .u64 0), (.int .u64 0), (.int .u64 0), (.string ⟨#[]⟩), (.string ⟨#[]⟩), (.bool false), (.bool false), (.bool false), (.bool false)]) zeroValue70 rfl fun b7 => ?_
   refine j_storeN (cs' := [_, _, _, _, _, _, _, _, _, _]) (H' := [_, _, _, _, _, _, _]) 0 rfl rfl rfl rfl sizeOf70 rfl rfl rfl rfl rfl rfl rfl ?_
   refine j_nil (ej_then (hK14 _ _ _ (CJ.s [(1, _), (3, _), (7, _), (62, _), (63, _), (64, _)] ⟨rfl, rfl, rfl, rfl, rfl, rfl, trivial⟩ ?_)))
   refine cj_drawI 31 [(0, true), (1, true), (2, true), (3, true), (4, true), (5, true), (6, true), (7, true), (8, true), (9, true), (10, true), (11, true), (12, true), (13, true), (14, true), (15, true), (16, true), (17, true), (18, true), (19, true), (20, true), (21, true), (22, true), (23, true), (24, true), (25, true), (26, false), (27, false), (28, false), (29, true), (30, true), (31, false)] [0, 3] rfl (by kernel_rfl) (by kernel_rfl) ?_
   refine dj_val rfl rfl (sub_of [0, 3] rfl) (fun _ _ h => r_move rfl h) (dj_val rfl rfl (sub_of [0, 3] rfl) (fun _ _ h => r_move rfl h) (dj_val rfl rfl (sub_of [0, 3] rfl) (fun _ _ h => r_nil rfl h) (dj_val rfl rfl (sub_of [0, 3] rfl) (fun _ _ h => r_fl (q := 3) (ft := 117) runUnderlying121 rfl sizeOf117 rfl h) (dj_ld rfl rfl (sub_of [0, 3] rfl) (fun a w ha hS => r_ldS 1 rfl rfl isAgg117 rfl rfl ha hS) (dj_val rfl rfl (sub_of [0, 3] rfl) (fun _ _ h => r_fl (q := 0) (ft := 59) runUnderlying70 rfl sizeOf59 rfl h) (dj_ld rfl rfl (sub_of [0, 3] rfl) (fun a w ha hS => r_ldS 0 rfl rfl isAgg59 rfl rfl ha hS) (dj_val rfl rfl (sub_of [0, 3] rfl) (fun _ _ h => r_fl (q := 1) (ft := 59) runUnderlying70 rfl sizeOf59 rfl h) (dj_ld rfl rfl (sub_of [0, 3] rfl) (fun a w ha hS => r_ldS 0 rfl rfl isAgg59 rfl rfl ha hS) (dj_val rfl rfl (sub_of [0, 3] rfl) (fun _ _ h => r_fl (q := 2) (ft := 59) runUnderlying70 rfl sizeOf59 rfl h) (dj_ld rfl rfl (sub_of [0, 3] rfl) (fun a w ha hS => r_ldS 0 rfl rfl isAgg59 rfl rfl ha hS) (dj_val rfl rfl (sub_of [0, 3] rfl) (fun _ _ h => r_fl (q := 3) (ft := 59) runUnderlying70 rfl sizeOf59 rfl h) (dj_ld rfl rfl (sub_of [0, 3] rfl) (fun a w ha hS => r_ldS 0 rfl rfl isAgg59 rfl rfl ha hS) (dj_val rfl rfl (sub_of [0, 3] rfl) (fun _ _ h => r_fl (q := 4) (ft := 9) runUnderlying70 rfl sizeOf9 rfl h) ?_)))))))))))))
   refine dj_ld rfl rfl (sub_of [0, 3] rfl) (fun a w ha hS => r_ldS 0 rfl rfl isAgg9 rfl rfl ha hS) (dj_val rfl rfl (sub_of [0, 3] rfl) (fun _ _ h => r_fl (q := 5) (ft := 9) runUnderlying70 rfl sizeOf9 rfl h) (dj_ld rfl rfl (sub_of [0, 3] rfl) (fun a w ha hS => r_ldS 0 rfl rfl isAgg9 rfl rfl ha hS) (dj_val rfl rfl (sub_of [0, 3] rfl) (fun _ _ h => r_fl (q := 6) (ft := 4) runUnderlying70 rfl sizeOf4 rfl h) (dj_ld rfl rfl (sub_of [0, 3] rfl) (fun a w ha hS => r_ldS 0 rfl rfl isAgg4 rfl rfl ha hS) (dj_val rfl rfl (sub_of [0, 3] rfl) (fun _ _ h => r_fl (q := 7) (ft := 4) runUnderlying70 rfl sizeOf4 rfl h) (dj_ld rfl rfl (sub_of [0, 3] rfl) (fun a w ha hS => r_ldS 0 rfl rfl isAgg4 rfl rfl ha hS) (dj_val rfl rfl (sub_of [0, 3] rfl) (fun _ _ h => r_fl (q := 8) (ft := 4) runUnderlying70 rfl sizeOf4 rfl h) (dj_ld rfl rfl (sub_of [0, 3] rfl) (fun a w ha hS => r_ldS 0 rfl rfl isAgg4 rfl rfl ha hS) (dj_val rfl rfl (sub_of [0, 3] rfl) (fun _ _ h => r_fl (q := 9) (ft := 4) runUnderlying70 rfl sizeOf4 rfl h) (dj_ld rfl rfl (sub_of [0, 3] rfl) (fun a w ha hS => r_ldS 0 rfl rfl isAgg4 rfl rfl ha hS) (dj_val rfl rfl (sub_of [0, 3] rfl) (fun _ _ h => r_build (cs := [_, _, _, _, _, _, _, _, _, _, (.int .i64 0), (.int .i64 0)]) bt124 rfl rfl h) (dj_eff rfl fun K2 hK2 => ?_))))))))))))
   refine j_boxA (vs := [_, _, _, _, _, _, _, _, _, _, _, _]) rfl rfl fun b94 => ?_
   refine j_nil (ej_then (hK2 _ _ (.inr (sub_of [1, 4] rfl)) ?_)); clear hK2 K2
   refine dj_eff rfl fun K2 hK2 => ?_
   refine j_bslice1 runUnderlying117 sizeOf122 zeroValue122 rfl rfl rfl rfl rfl fun b95 => ?_
   refine j_nil (ej_then (hK2 _ _ (.inr (sub_of [2, 5] rfl)) ?_)); clear hK2 K2
   refine dj_eff rfl fun K2 hK2 => ?_
   refine j_appO 2 rfl hOM runUnderlying117 el122 rfl rfl rfl rfl rfl (by omega) rfl fun y96 p96 c96 hO96 => ?_
   refine j_nil (ej_then (hK2 _ _ (.inr (sub_of [1, 4] rfl)) ?_)); clear hK2 K2
   refine dj_val rfl rfl (sub_of [1, 4] rfl) (fun _ _ h => r_nil rfl h) (dj_val rfl rfl (sub_of [1, 4] rfl) (fun _ _ h => r_fl (q := 3) (ft := 117) runUnderlying121 rfl sizeOf117 rfl h) (dj_eff rfl fun K2 hK2 => ?_))
   refine j_storeN (cs' := [_, _, _, _, _, _, _, _, _, _, _, _, _, _, _, _, _, _]) (H' := [_, _, _, _, _, _, _, _]) 4 rfl rfl rfl rfl sizeOf117 rfl rfl rfl rfl rfl rfl rfl ?_
   refine j_nil (ej_then (hK2 _ _ (.inl rfl) ?_)); clear hK2 K2
   refine dj_end (ej_blk (ej_then (hK13 _ _ _ (CJ.s [(1, _), (3, _), (62, _), (63, _), (64, _)] ⟨rfl, rfl, rfl, rfl, rfl, trivial⟩ (cj_reg (j_val rfl (fun _ _ h => r_inc (by omega) rfl rfl h) (jM rfl rfl (j_nil (ej_then ?_)))))))))
   exact fun w' hH hf => hKLM (kM + 1, y96, p96, c96, bM ++ [b94]) _ w' ⟨hkM, by rw [← ptrs_push]; exact hO96, hpM.push hkM hf.size (fun _ _ h => ok_blk hf h rfl) (hH.get (i := 0) rfl rfl) (hH.fresh' (i := 0) rfl rfl) hs2 (hH.get (i := 0) rfl rfl).lt, ⟨hB39.1, hB39.2.1, Nat.lt_of_lt_of_le hB39.2.2 hf.size⟩, hPT.mono hf.size (fun _ _ h => ok_blk hf h rfl)⟩ (ok_back hf2 (.inr fun _ h => h) hf) (hH.2.2.2.2.2.2.back hf2.size (.inr fun _ h => h)) (by simp only; omega) ⟨rfl, rfl, rfl, rfl, rfl, trivial⟩
  ·have hPM := hpM.full (by omega)
   refine cj_exit (ej_then_exit (ej_then_exit (ej_blk_hit (ej_then (hK9 _ _ _ (CJ.s [(1, _), (3, _)] ⟨rfl, rfl, trivial⟩ (cj_seqF fun K15 hK15 => cj_seqF fun K16 hK16 => cj_reg (j_val rfl (fun _ _ h => r_fl (q := 5) (ft := 26) runUnderlying31 rfl sizeOf26 rfl h) (j_valw rfl (fun a w ha hH hf => r_ldH 5 rfl rfl isAgg26 rfl rfl ha hH) (j_val rfl (fun _ _ h => r_len runUnderlying26 rfl h) (jM rfl rfl (j_nil (ej_then (hK16 _ _ _ (CJ.s [(1, _), (3, _), (101, _), (102, _), (103, _)] ⟨rfl, rfl, rfl, rfl, rfl, trivial⟩ (cj_block ?_))))))))))))))))
   -- LOOP 2 live [1, 3, 101, 102, 103]
   refine cj_loop (σ := Nat × Ent × Option Addr × Nat × List Nat) (fun s => [(1, ptr b1), (3, ptr b41), (101, .slice pf x.funcs.length cf), (102, .int .i64 (x.funcs.length : Nat)), (103, .int .i64 (s.1 : Nat))])
    (fun s => [s.2.1, ro yM, ro yT, eProf b41 x (.slice pT kT cT) (.slice none 0 0) (.slice pM kM cM) (.slice none 0 0) (.slice s.2.2.1 s.1 s.2.2.2.1) (.slice p26 (0 + x.comments.length) c26) b39, ⟨b39, tVT, cVT x.per, false, true, none⟩, ro y26, ⟨b1, 31, [.slice pt x.types.length ct, .string x.deflt, .slice ps x.samples.length csm, .slice pm x.mappings.length cm, .slice pl x.locs.length cl, .slice pf x.funcs.length cf, .slice pc x.comments.length cc, .string x.drop, .string x.keep, .int .i64 x.time, .int .i64 x.dur, .int .i64 x.period, .string x.per.ty, .string x.per.unit], false, true, none⟩])
    (fun s w' => s.1 ≤ x.funcs.length ∧ Own pFun 1 s.2.1 s.2.2.1 s.1 s.2.2.2.1 (s.2.2.2.2.map ptr) ∧ Part w.heap.size w' s.2.2.2.2 (x.funcs.take s.1) φF ∧ (w.heap.size ≤ b39 ∧ w.heap.size ≤ b41 ∧ b39 < w'.heap.size) ∧ Part (b39 + 1) w' bT x.types φT ∧ Part w.heap.size w' bM x.mappings φM)
    (fun s => x.funcs.length - s.1) (0, nilE pFun, none, 0, []) ⟨rfl, rfl, rfl, rfl, rfl, trivial⟩ (fun w' hH hf => ⟨Hp.off (hH.roHead), Nat.zero_le _, Own.nil, Part.nil, ⟨hB39.1, hB39.2.1, Nat.lt_of_lt_of_le hB39.2.2 hf.size⟩, hPT.mono hf.size (fun _ _ h => ok_blk hf h rfl), hPM.mono hf.size (fun _ _ h => ok_blk hf h rfl)⟩) ?_
   rintro ⟨kF, yF, pF, cF, bF⟩ w3 ⟨hk, hOF, hpF, hB39, hPT, hPM⟩ hf3 hH3 KLF hKLF
   have hs3 : w.heap.size ≤ w3.heap.size := Nat.le_trans hs2 hf3.size
   have hk3 : Keep w w3 := hKd _ _ hf3
   have hKd := fun W => keepOf (W := W) hk3 (Nat.le_refl _)
   have hH := hH3.again (W := [tProf, pVT, pMap, pFun, pLoc, pSam]) hs2 (TagOK.own (.ro (.ro (.row (.ro (.ro (.ro .nil rfl) rfl) rfl) rfl) rfl) rfl) hOF rfl)
   refine C.begin ⟨w3, w.heap.size, [tProf, pVT, pMap, pFun, pLoc, pSam]⟩ [yF, ro yM, ro yT, eProf b41 x (.slice pT kT cT) (.slice none 0 0) (.slice pM kM cM) (.slice none 0 0) (.slice pF kF cF) (.slice p26 (0 + x.comments.length) c26) b39, ⟨b39, tVT, cVT x.per, false, true, none⟩, ro y26, ⟨b1, 31, [.slice pt x.types.length ct, .string x.deflt, .slice ps x.samples.length csm, .slice pm x.mappings.length cm, .slice pl x.locs.length cl, .slice pf x.funcs.length cf, .slice pc x.comments.length cc, .string x.drop, .string x.keep, .int .i64 x.time, .int .i64 x.dur, .int .i64 x.period, .string x.per.ty, .string x.per.unit], false, true, none⟩] ok_refl hH ?_
   refine CJ.s [(1, _), (3, _), (101, _), (102, _), (103, .int .i64 (kF : Nat))] ⟨rfl, rfl, rfl, rfl, rfl, trivial⟩ ?_
   clear hH
   refine cj_seqF fun K17 hK17 => cj_reg (j_val rfl (fun _ _ h => r_lss rfl rfl h) (j_nil (ej_then (hK17 _ _ _ (CJ.s [(1, _), (3, _), (101, _), (102, _), (103, _), (104, _)] ⟨rfl, rfl, rfl, rfl, rfl, rfl, trivial⟩ (cj_seqF fun K18 hK18 => ?_))))))
   refine cj_dec rfl (fun h104 => ?_) (fun h104 => ?_)
   ·have hkF : kF < x.funcs.length := by omega
    obtain ⟨qb, qo, cs, rfl, hcs, hR, hcell⟩ := hxf kF x.funcs[kF] (List.getElem?_eq_getElem hkF)
    obtain ⟨rfl, -⟩ := hR
    refine cj_skip (ej_then (hK18 _ _ _ (CJ.s [(1, _), (3, _), (101, _), (102, _), (103, _)] ⟨rfl, rfl, rfl, rfl, rfl, trivial⟩ (cj_seqF fun K19 hK19 => cj_block (cj_seqF fun K20 hK20 => cj_reg (j_val rfl (fun _ _ h => r_idx runUnderlying26 sizeOf72 rfl rfl (by omega) h) (j_valw rfl (fun a w ha hH hf => r_loadA isAgg72 sizeOf72 rfl rfl (hcell w (hKd _ _ hf)) ha) ?_)))))))
    refine j_allocA (zs := [(.int .u64 0), (.string ⟨#[]⟩), (.string ⟨#[]⟩), (.string ⟨#[]⟩), (.int .i64 0)]) zeroValue72 rfl fun b9 => ?_
    refine j_storeN (cs' := [_, _, _, _, _]) (H' := [_, _, _, _, _, _, _, _]) 0 rfl rfl rfl rfl sizeOf72 rfl rfl rfl rfl rfl rfl rfl ?_
    refine j_nil (ej_then (hK20 _ _ _ (CJ.s [(1, _), (3, _), (9, _), (101, _), (102, _), (103, _)] ⟨rfl, rfl, rfl, rfl, rfl, rfl, trivial⟩ ?_)))
    refine cj_drawI 21 [(0, true), (1, true), (2, true), (3, true), (4, true), (5, true), (6, true), (7, true), (8, true), (9, true), (10, true), (11, true), (12, true), (13, true), (14, true), (15, true), (16, false), (17, false), (18, false), (19, true), (20, true), (21, false)] [0, 4] rfl (by kernel_rfl) (by kernel_rfl) ?_
    refine dj_val rfl rfl (sub_of [0, 4] rfl) (fun _ _ h => r_move rfl h) (dj_val rfl rfl (sub_of [0, 4] rfl) (fun _ _ h => r_move rfl h) (dj_val rfl rfl (sub_of [0, 4] rfl) (fun _ _ h => r_nil rfl h) (dj_val rfl rfl (sub_of [0, 4] rfl) (fun _ _ h => r_fl (q := 5) (ft := 119) runUnderlying121 rfl sizeOf119 rfl h) (dj_ld rfl rfl (sub_of [0, 4] rfl) (fun a w ha hS => r_ldS 1 rfl rfl isAgg119 rfl rfl ha hS) (dj_val rfl rfl (sub_of [0, 4] rfl) (fun _ _ h => r_fl (q := 0) (ft := 59) runUnderlying72 rfl sizeOf59 rfl h) (dj_ld rfl rfl (sub_of [0, 4] rfl) (fun a w ha hS => r_ldS 0 rfl rfl isAgg59 rfl rfl ha hS) (dj_val rfl rfl (sub_of [0, 4] rfl) (fun _ _ h => r_fl (q := 1) (ft := 9) runUnderlying72 rfl sizeOf9 rfl h) (dj_ld rfl rfl (sub_of [0, 4] rfl) (fun a w ha hS => r_ldS 0 rfl rfl isAgg9 rfl rfl ha hS) (dj_val rfl rfl (sub_of [0, 4] rfl) (fun _ _ h => r_fl (q := 2) (ft := 9) runUnderlying72 rfl sizeOf9 rfl h) (dj_ld rfl rfl (sub_of [0, 4] rfl) (fun a w ha hS => r_ldS 0 rfl rfl isAgg9 rfl rfl ha hS) (dj_val rfl rfl (sub_of [0, 4] rfl) (fun _ _ h => r_fl (q := 3) (ft := 9) runUnderlying72 rfl sizeOf9 rfl h) (dj_ld rfl rfl (sub_of [0, 4] rfl) (fun a w ha hS => r_ldS 0 rfl rfl isAgg9 rfl rfl ha hS) (dj_val rfl rfl (sub_of [0, 4] rfl) (fun _ _ h => r_fl (q := 4) (ft := 2) runUnderlying72 rfl sizeOf2 rfl h) ?_)))))))))))))
    refine dj_ld rfl rfl (sub_of [0, 4] rfl) (fun a w ha hS => r_ldS 0 rfl rfl isAgg2 rfl rfl ha hS) (dj_val rfl rfl (sub_of [0, 4] rfl) (fun _ _ h => r_build (cs := [_, _, _, _, _, (.int .i64 0), (.int .i64 0), (.int .i64 0)]) bt127 rfl rfl h) (dj_eff rfl fun K2 hK2 => ?_))
    refine j_boxA (vs := [_, _, _, _, _, _, _, _]) rfl rfl fun b123 => ?_
    refine j_nil (ej_then (hK2 _ _ (.inr (sub_of [1, 5] rfl)) ?_)); clear hK2 K2
    refine dj_eff rfl fun K2 hK2 => ?_
    refine j_bslice1 runUnderlying119 sizeOf125 zeroValue125 rfl rfl rfl rfl rfl fun b124 => ?_
    refine j_nil (ej_then (hK2 _ _ (.inr (sub_of [2, 6] rfl)) ?_)); clear hK2 K2
    refine dj_eff rfl fun K2 hK2 => ?_
    refine j_appO 2 rfl hOF runUnderlying119 el125 rfl rfl rfl rfl rfl (by omega) rfl fun y125 p125 c125 hO125 => ?_
    refine j_nil (ej_then (hK2 _ _ (.inr (sub_of [1, 5] rfl)) ?_)); clear hK2 K2
    refine dj_val rfl rfl (sub_of [1, 5] rfl) (fun _ _ h => r_nil rfl h) (dj_val rfl rfl (sub_of [1, 5] rfl) (fun _ _ h => r_fl (q := 5) (ft := 119) runUnderlying121 rfl sizeOf119 rfl h) (dj_eff rfl fun K2 hK2 => ?_))
    refine j_storeN (cs' := [_, _, _, _, _, _, _, _, _, _, _, _, _, _, _, _, _, _]) (H' := [_, _, _, _, _, _, _, _, _]) 5 rfl rfl rfl rfl sizeOf119 rfl rfl rfl rfl rfl rfl rfl ?_
    refine j_nil (ej_then (hK2 _ _ (.inl rfl) ?_)); clear hK2 K2
    refine dj_end (ej_blk (ej_then (hK19 _ _ _ (CJ.s [(1, _), (3, _), (101, _), (102, _), (103, _)] ⟨rfl, rfl, rfl, rfl, rfl, trivial⟩ (cj_reg (j_val rfl (fun _ _ h => r_inc (by omega) rfl rfl h) (jM rfl rfl (j_nil (ej_then ?_)))))))))
    exact fun w' hH hf => hKLF (kF + 1, y125, p125, c125, bF ++ [b123]) _ w' ⟨hkF, by rw [← ptrs_push]; exact hO125, hpF.push hkF hf.size (fun _ _ h => ok_blk hf h rfl) (hH.get (i := 0) rfl rfl) (hH.fresh' (i := 0) rfl rfl) hs3 (hH.get (i := 0) rfl rfl).lt, ⟨hB39.1, hB39.2.1, Nat.lt_of_lt_of_le hB39.2.2 hf.size⟩, hPT.mono hf.size (fun _ _ h => ok_blk hf h rfl), hPM.mono hf.size (fun _ _ h => ok_blk hf h rfl)⟩ (ok_back hf3 (.inr fun _ h => h) hf) (hH.2.2.2.2.2.2.back hf3.size (.inr fun _ h => h)) (by simp only; omega) ⟨rfl, rfl, rfl, rfl, rfl, trivial⟩
   ·have hPF := hpF.full (by omega)
    refine cj_exit (ej_then_exit (ej_then_exit (ej_blk_hit (ej_then (hK15 _ _ _ (CJ.s [(1, _), (3, _)] ⟨rfl, rfl, trivial⟩ (cj_seqF fun K21 hK21 => cj_seqF fun K22 hK22 => cj_reg (j_val rfl (fun _ _ h => r_fl (q := 4) (ft := 25) runUnderlying31 rfl sizeOf25 rfl h) (j_valw rfl (fun a w ha hH hf => r_ldH 6 rfl rfl isAgg25 rfl rfl ha hH) (j_val rfl (fun _ _ h => r_len runUnderlying25 rfl h) (jM rfl rfl (j_nil (ej_then (hK22 _ _ _ (CJ.s [(1, _), (3, _), (130, _), (131, _), (132, _)] ⟨rfl, rfl, rfl, rfl, rfl, trivial⟩ (cj_block ?_))))))))))))))))
    -- LOOP 3 live [1, 3, 130, 131, 132]
    refine cj_loop (σ := Nat × Ent × Option Addr × Nat × List Nat) (fun s => [(1, ptr b1), (3, ptr b41), (130, .slice pl x.locs.length cl), (131, .int .i64 (x.locs.length : Nat)), (132, .int .i64 (s.1 : Nat))])
     (fun s => [s.2.1, ro yF, ro yM, ro yT, eProf b41 x (.slice pT kT cT) (.slice none 0 0) (.slice pM kM cM) (.slice s.2.2.1 s.1 s.2.2.2.1) (.slice pF kF cF) (.slice p26 (0 + x.comments.length) c26) b39, ⟨b39, tVT, cVT x.per, false, true, none⟩, ro y26, ⟨b1, 31, [.slice pt x.types.length ct, .string x.deflt, .slice ps x.samples.length csm, .slice pm x.mappings.length cm, .slice pl x.locs.length cl, .slice pf x.funcs.length cf, .slice pc x.comments.length cc, .string x.drop, .string x.keep, .int .i64 x.time, .int .i64 x.dur, .int .i64 x.period, .string x.per.ty, .string x.per.unit], false, true, none⟩])
     (fun s w' => s.1 ≤ x.locs.length ∧ Own pLoc 1 s.2.1 s.2.2.1 s.1 s.2.2.2.1 (s.2.2.2.2.map ptr) ∧ Part w.heap.size w' s.2.2.2.2 (x.locs.take s.1) (fun v b l => LocP v bM bF b l ∧ RowGe w.heap.size v b) ∧ (w.heap.size ≤ b39 ∧ w.heap.size ≤ b41 ∧ b39 < w'.heap.size) ∧ Part (b39 + 1) w' bT x.types φT ∧ Part w.heap.size w' bM x.mappings φM ∧ Part w.heap.size w' bF x.funcs φF)
     (fun s => x.locs.length - s.1) (0, nilE pLoc, none, 0, []) ⟨rfl, rfl, rfl, rfl, rfl, trivial⟩ (fun w' hH hf => ⟨Hp.off (hH.roHead), Nat.zero_le _, Own.nil, Part.nil, ⟨hB39.1, hB39.2.1, Nat.lt_of_lt_of_le hB39.2.2 hf.size⟩, hPT.mono hf.size (fun _ _ h => ok_blk hf h rfl), hPM.mono hf.size (fun _ _ h => ok_blk hf h rfl), hPF.mono hf.size (fun _ _ h => ok_blk hf h rfl)⟩) ?_
    rintro ⟨kL, yL, pL, cL, bL⟩ w4 ⟨hk, hOL, hpL, hB39, hPT, hPM, hPF⟩ hf4 hH4 KLL hKLL
    have hs4 : w.heap.size ≤ w4.heap.size := Nat.le_trans hs3 hf4.size
    have hk4 : Keep w w4 := hKd _ _ hf4
    have hKd := fun W => keepOf (W := W) hk4 (Nat.le_refl _)
    have hH := hH4.again (W := [tProf, pVT, pMap, pFun, pLoc, pSam]) hs3 (TagOK.own (.ro (.ro (.ro (.row (.ro (.ro (.ro .nil rfl) rfl) rfl) rfl) rfl) rfl) rfl) hOL rfl)
    refine C.begin ⟨w4, w.heap.size, [tProf, pVT, pMap, pFun, pLoc, pSam]⟩ [yL, ro yF, ro yM, ro yT, eProf b41 x (.slice pT kT cT) (.slice none 0 0) (.slice pM kM cM) (.slice pL kL cL) (.slice pF kF cF) (.slice p26 (0 + x.comments.length) c26) b39, ⟨b39, tVT, cVT x.per, false, true, none⟩, ro y26, ⟨b1, 31, [.slice pt x.types.length ct, .string x.deflt, .slice ps x.samples.length csm, .slice pm x.mappings.length cm, .slice pl x.locs.length cl, .slice pf x.funcs.length cf, .slice pc x.comments.length cc, .string x.drop, .string x.keep, .int .i64 x.time, .int .i64 x.dur, .int .i64 x.period, .string x.per.ty, .string x.per.unit], false, true, none⟩] ok_refl hH ?_
    refine CJ.s [(1, _), (3, _), (130, _), (131, _), (132, .int .i64 (kL : Nat))] ⟨rfl, rfl, rfl, rfl, rfl, trivial⟩ ?_
    clear hH
    refine cj_seqF fun K23 hK23 => cj_reg (j_val rfl (fun _ _ h => r_lss rfl rfl h) (j_nil (ej_then (hK23 _ _ _ (CJ.s [(1, _), (3, _), (130, _), (131, _), (132, _), (133, _)] ⟨rfl, rfl, rfl, rfl, rfl, rfl, trivial⟩ (cj_seqF fun K24 hK24 => ?_))))))
    refine cj_dec rfl (fun h133 => ?_) (fun h133 => ?_)
    ·have hkL : kL < x.locs.length := by omega
     obtain ⟨qb, qo, cs, rfl, hcs, hR, hcell⟩ := hxl kL x.locs[kL] (List.getElem?_eq_getElem hkL)
     obtain ⟨l1, rfl, -, -, -, hl1⟩ := hR
     obtain ⟨p1, c1, rfl, -, hx1⟩ := hl1.open
     obtain ⟨hmap, n7, hlin⟩ := hx.tab.locs x.locs[kL] (List.getElem_mem hkL)
     have hlM : kM = bM.length := by have := hOM.sl.1; simp at this; omega
     have hlF : kF = bF.length := by have := hOF.sl.1; simp at this; omega
     have hlM2 := hPM.each.1
     have hlF2 := hPF.each.1
     refine cj_skip (ej_then (hK24 _ _ _ (CJ.s [(1, _), (3, _), (130, _), (131, _), (132, _)] ⟨rfl, rfl, rfl, rfl, rfl, trivial⟩ (cj_seqF fun K25 hK25 => cj_block (cj_seqF fun K26 hK26 => cj_reg (j_val rfl (fun _ _ h => r_idx runUnderlying25 sizeOf76 rfl rfl (by omega) h) (j_valw rfl (fun a w ha hH hf => r_loadA isAgg76 sizeOf76 rfl rfl (hcell w (hKd _ _ hf)) ha) ?_)))))))
     refine j_allocA (zs := [(.int .u64 0), (.int .i64 0), (.int .u64 0), (.slice none 0 0)]) zeroValue76 rfl fun b11 => ?_
     refine j_storeN (cs' := [_, _, _, _]) (H' := [_, _, _, _, _, _, _, _, _]) 0 rfl rfl rfl rfl sizeOf76 rfl rfl rfl rfl rfl rfl rfl ?_
     refine j_nil (ej_then (hK26 _ _ _ (CJ.s [(1, _), (3, _), (11, _), (130, _), (131, _), (132, _)] ⟨rfl, rfl, rfl, rfl, rfl, rfl, trivial⟩ (cj_seqF fun K27 hK27 => cj_reg (j_val rfl (fun _ _ h => r_fl (q := 0) (ft := 59) runUnderlying76 rfl sizeOf59 rfl h) (j_valw rfl (fun a w ha hH hf => r_ldH 0 rfl rfl isAgg59 rfl rfl ha hH) (j_val rfl (fun _ _ h => r_fl (q := 2) (ft := 59) runUnderlying76 rfl sizeOf59 rfl h) (j_valw rfl (fun a w ha hH hf => r_ldH 0 rfl rfl isAgg59 rfl rfl ha hH) (j_val rfl (fun _ _ h => r_build (cs := [_, (.pointer none), _, (.slice none 0 0), (.bool false), (.int .u64 0)]) bt131 rfl rfl h) ?_)))))))))
     refine j_boxA (vs := [_, _, _, _, _, _]) rfl rfl fun b141 => ?_
     refine jA rfl rfl (j_nil (ej_then (hK27 _ _ _ (CJ.s [(1, _), (3, _), (11, _), (12, _), (130, _), (131, _), (132, _)] ⟨rfl, rfl, rfl, rfl, rfl, rfl, rfl, trivial⟩ (cj_seqF fun K28 hK28 => cj_seqF fun K29 hK29 => cj_reg (j_val rfl (fun _ _ h => r_fl (q := 1) (ft := 3) runUnderlying76 rfl sizeOf3 rfl h) (j_valw rfl (fun a w ha hH hf => r_ldH 1 rfl rfl isAgg3 rfl rfl ha hH) (j_val rfl (fun _ _ h => r_geq rfl rfl h) (j_nil (ej_then (hK29 _ _ _ (CJ.s [(1, _), (3, _), (11, _), (12, _), (130, _), (131, _), (132, _), (144, _)] ⟨rfl, rfl, rfl, rfl, rfl, rfl, rfl, rfl, trivial⟩ ?_))))))))))))
     refine cj_dec rfl (fun h144 => ?_) (fun h144 => ?_)
     ·have hzM : x.locs[kL].mapping = ((x.locs[kL].mapping.toNat : Nat) : Int) := by omega
      have hltM : x.locs[kL].mapping.toNat < kM := by omega
      obtain ⟨honM, hpeM⟩ := hOM.pos (by omega)
      refine cj_drawI 11 [(0, true), (1, true), (2, true), (3, true), (4, true), (5, true), (6, true), (7, true), (8, true), (9, true), (10, true), (11, false)] [1, 6, 4] rfl (by kernel_rfl) (by kernel_rfl) ?_
      refine dj_val rfl rfl (sub_of [1, 6, 4] rfl) (fun _ _ h => r_move rfl h) (dj_val rfl rfl (sub_of [1, 6, 4] rfl) (fun _ _ h => r_move rfl h) (dj_val rfl rfl (sub_of [1, 6, 4] rfl) (fun _ _ h => r_nil rfl h) (dj_val rfl rfl (sub_of [1, 6, 4] rfl) (fun _ _ h => r_fl (q := 3) (ft := 117) runUnderlying121 rfl sizeOf117 rfl h) (dj_ld rfl rfl (sub_of [1, 6, 4] rfl) (fun a w ha hS => r_ldS 1 rfl rfl isAgg117 rfl rfl ha hS) (dj_val rfl rfl (sub_of [1, 6, 4] rfl) (fun _ _ h => r_fl (q := 1) (ft := 3) runUnderlying76 rfl sizeOf3 rfl h) (dj_ld rfl rfl (sub_of [1, 6, 4] rfl) (fun a w ha hS => r_ldS 0 rfl rfl isAgg3 rfl rfl ha hS) (dj_val rfl rfl (sub_of [1, 6, 4] rfl) (fun _ _ h => r_idxI _ runUnderlying117 sizeOf122 rfl hpeM rfl hzM hltM h) (dj_ld rfl rfl (sub_of [1, 6, 4] rfl) (fun a w ha hS => r_load isAgg122 rfl (hOM.cell (hS.1 (ro yM) (by simp) honM) (ptrAt_pos h144 (hlM ▸ hltM))) ha) (dj_val rfl rfl (sub_of [1, 6, 4] rfl) (fun _ _ h => r_nil rfl h) (dj_val rfl rfl (sub_of [1, 6, 4] rfl) (fun _ _ h => r_fl (q := 1) (ft := 122) runUnderlying131 rfl sizeOf122 rfl h) (dj_eff rfl fun K2 hK2 => ?_)))))))))))
      refine j_storeN (cs' := [_, _, _, _, _, _]) (H' := [_, _, _, _, _, _, _, _, _, _]) 0 rfl rfl rfl rfl sizeOf122 rfl rfl rfl rfl rfl rfl rfl ?_
      refine j_nil (ej_then (hK2 _ _ (.inl rfl) ?_)); clear hK2 K2
      refine dj_end (ej_then (hK28 _ _ _ (CJ.s [(1, _), (3, _), (11, _), (12, _), (130, _), (131, _), (132, _)] ⟨rfl, rfl, rfl, rfl, rfl, rfl, rfl, trivial⟩ (cj_seqF fun K30 hK30 => cj_seqF fun K31 hK31 => cj_reg (j_val rfl (fun _ _ h => r_fl (q := 3) (ft := 74) runUnderlying76 rfl sizeOf74 rfl h) (j_valw rfl (fun a w ha hH hf => r_ldH 1 rfl rfl isAgg74 rfl rfl ha hH) (j_val rfl (fun _ _ h => r_len runUnderlying74 rfl h) (jM rfl rfl (j_nil (ej_then (hK31 _ _ _ (CJ.s [(1, _), (3, _), (12, _), (130, _), (131, _), (132, _), (157, _), (158, _), (159, _)] ⟨rfl, rfl, rfl, rfl, rfl, rfl, rfl, rfl, rfl, trivial⟩ (cj_block ?_)))))))))))))
      -- LOOP 4 live [1, 3, 12, 130, 131, 132, 157, 158, 159]
      refine cj_loop (σ := Nat × Ent × Option Addr × Nat) (fun s => [(1, ptr b1), (3, ptr b41), (12, ptr b141), (130, .slice (some ⟨qb, qo, none⟩) x.locs.length cl), (131, .int .i64 (x.locs.length : Nat)), (132, .int .i64 (kL : Nat)), (157, .slice p1 x.locs[kL].lines.length c1), (158, .int .i64 (x.locs[kL].lines.length : Nat)), (159, .int .i64 (s.1 : Nat))])
       (fun s => [s.2.1, ⟨b141, tLoc, cLoc bM x.locs[kL] (.slice s.2.2.1 s.1 s.2.2.2), true, true, none⟩, yL, ro yF, ro yM, ro yT, eProf b41 x (.slice pT kT cT) (.slice none 0 0) (.slice pM kM cM) (.slice pL kL cL) (.slice pF kF cF) (.slice p26 (0 + x.comments.length) c26) b39, ⟨b39, tVT, cVT x.per, false, true, none⟩, ro y26, ⟨b1, 31, [.slice pt x.types.length ct, .string x.deflt, .slice ps x.samples.length csm, .slice pm x.mappings.length cm, .slice (some ⟨qb, qo, none⟩) x.locs.length cl, .slice pf x.funcs.length cf, .slice pc x.comments.length cc, .string x.drop, .string x.keep, .int .i64 x.time, .int .i64 x.dur, .int .i64 x.period, .string x.per.ty, .string x.per.unit], false, true, none⟩])
       (fun s w' => s.1 ≤ x.locs[kL].lines.length ∧ Own tLine 3 s.2.1 s.2.2.1 s.1 s.2.2.2 ((x.locs[kL].lines.take s.1).flatMap (cLine bF)))
       (fun s => x.locs[kL].lines.length - s.1) (0, nilE tLine, none, 0) ⟨rfl, rfl, rfl, rfl, rfl, rfl, rfl, rfl, rfl, trivial⟩ (fun w' hH hf => ⟨(hH.drop 1).off, Nat.zero_le _, Own.nil⟩) ?_
      rintro ⟨j, yN, pN, cN⟩ wN ⟨hj, hON⟩ hfN hHN KN hKN
      refine C.begin _ [yN, ⟨b141, tLoc, cLoc bM x.locs[kL] (.slice pN j cN), true, true, none⟩, yL, ro yF, ro yM, ro yT, eProf b41 x (.slice pT kT cT) (.slice none 0 0) (.slice pM kM cM) (.slice pL kL cL) (.slice pF kF cF) (.slice p26 (0 + x.comments.length) c26) b39, ⟨b39, tVT, cVT x.per, false, true, none⟩, ro y26, ⟨b1, 31, [.slice pt x.types.length ct, .string x.deflt, .slice ps x.samples.length csm, .slice pm x.mappings.length cm, .slice (some ⟨qb, qo, none⟩) x.locs.length cl, .slice pf x.funcs.length cf, .slice pc x.comments.length cc, .string x.drop, .string x.keep, .int .i64 x.time, .int .i64 x.dur, .int .i64 x.period, .string x.per.ty, .string x.per.unit], false, true, none⟩] hfN hHN ?_
      refine CJ.s [(1, _), (3, _), (12, _), (130, _), (131, _), (132, _), (157, _), (158, _), (159, .int .i64 (j : Nat))] ⟨rfl, rfl, rfl, rfl, rfl, rfl, rfl, rfl, rfl, trivial⟩ (cj_seqF fun K32 hK32 => cj_reg (j_val rfl (fun _ _ h => r_lss rfl rfl h) (j_nil (ej_then (hK32 _ _ _ (CJ.s [(1, _), (3, _), (12, _), (130, _), (131, _), (132, _), (157, _), (158, _), (159, _), (160, _)] ⟨rfl, rfl, rfl, rfl, rfl, rfl, rfl, rfl, rfl, rfl, trivial⟩ (cj_seqF fun K33 hK33 => ?_)))))))
      refine cj_dec rfl (fun h160 => ?_) (fun h160 => ?_)
      ·have hj' : j < x.locs[kL].lines.length := by omega
       obtain ⟨qb2, qo2, cs2, rfl, -, hR2, hcell2⟩ := hx1 j x.locs[kL].lines[j] (List.getElem?_eq_getElem hj')
       obtain ⟨rfl, -, -⟩ := hR2
       have hfn := hlin x.locs[kL].lines[j] (List.getElem_mem hj')
       refine cj_skip (ej_then (hK33 _ _ _ (CJ.s [(1, _), (3, _), (12, _), (130, _), (131, _), (132, _), (157, _), (158, _), (159, _)] ⟨rfl, rfl, rfl, rfl, rfl, rfl, rfl, rfl, rfl, trivial⟩ (cj_seqF fun K34 hK34 => cj_block (cj_seqF fun K35 hK35 => cj_reg (j_val rfl (fun _ _ h => r_idx runUnderlying74 sizeOf78 rfl rfl (by omega) h) (j_valw rfl (fun a w ha hH hf => r_loadA isAgg78 sizeOf78 rfl rfl (hcell2 w (hKd _ _ hf)) ha) ?_)))))))
       refine j_allocA (zs := [(.int .i64 0), (.int .i64 0)]) zeroValue78 rfl fun b14 => ?_
       refine j_storeN (cs' := [_, _]) (H' := [_, _, _, _, _, _, _, _, _, _, _]) 0 rfl rfl rfl rfl sizeOf78 rfl rfl rfl rfl rfl rfl rfl ?_
       refine j_nil (ej_then (hK35 _ _ _ (CJ.s [(1, _), (3, _), (12, _), (14, _), (130, _), (131, _), (132, _), (157, _), (158, _), (159, _)] ⟨rfl, rfl, rfl, rfl, rfl, rfl, rfl, rfl, rfl, rfl, trivial⟩ (cj_seqF fun K36 hK36 => cj_reg (j_val rfl (fun _ _ h => r_fl (q := 1) (ft := 2) runUnderlying78 rfl sizeOf2 rfl h) (j_valw rfl (fun a w ha hH hf => r_ldH 0 rfl rfl isAgg2 rfl rfl ha hH) (j_val rfl (fun _ _ h => r_build (cs := [(.pointer none), _, (.int .u64 0)]) bt133 rfl rfl h) ?_)))))))
       refine j_allocA (zs := [(.pointer none), (.int .i64 0), (.int .u64 0)]) zeroValue133 rfl fun b15 => ?_
       refine j_storeN (cs' := [_, _, _]) (H' := [_, _, _, _, _, _, _, _, _, _, _, _]) 0 rfl rfl rfl rfl sizeOf133 rfl rfl rfl rfl rfl rfl rfl ?_
       refine j_nil (ej_then (hK36 _ _ _ (CJ.s [(1, _), (3, _), (12, _), (14, _), (15, _), (130, _), (131, _), (132, _), (157, _), (158, _), (159, _)] ⟨rfl, rfl, rfl, rfl, rfl, rfl, rfl, rfl, rfl, rfl, rfl, trivial⟩ (cj_seqF fun K37 hK37 => cj_seqF fun K38 hK38 => cj_reg (j_val rfl (fun _ _ h => r_fl (q := 0) (ft := 3) runUnderlying78 rfl sizeOf3 rfl h) (j_valw rfl (fun a w ha hH hf => r_ldH 1 rfl rfl isAgg3 rfl rfl ha hH) (j_val rfl (fun _ _ h => r_geq rfl rfl h) (j_nil (ej_then (hK38 _ _ _ (CJ.s [(1, _), (3, _), (12, _), (14, _), (15, _), (130, _), (131, _), (132, _), (157, _), (158, _), (159, _), (168, _)] ⟨rfl, rfl, rfl, rfl, rfl, rfl, rfl, rfl, rfl, rfl, rfl, rfl, trivial⟩ ?_)))))))))))
       refine cj_dec rfl (fun h168 => ?_) (fun h168 => ?_)
       ·have hzF : x.locs[kL].lines[j].fn = ((x.locs[kL].lines[j].fn.toNat : Nat) : Int) := by omega
        have hltF : x.locs[kL].lines[j].fn.toNat < kF := by omega
        obtain ⟨honF, hpeF⟩ := hOF.pos (by omega)
        refine cj_drawI 9 [(0, true), (1, true), (2, true), (3, true), (4, true), (5, true), (6, true), (7, true), (8, true), (9, false)] [1, 8, 5] rfl (by kernel_rfl) (by kernel_rfl) ?_
        refine dj_val rfl rfl (sub_of [1, 8, 5] rfl) (fun _ _ h => r_move rfl h) (dj_val rfl rfl (sub_of [1, 8, 5] rfl) (fun _ _ h => r_nil rfl h) (dj_val rfl rfl (sub_of [1, 8, 5] rfl) (fun _ _ h => r_fl (q := 5) (ft := 119) runUnderlying121 rfl sizeOf119 rfl h) (dj_ld rfl rfl (sub_of [1, 8, 5] rfl) (fun a w ha hS => r_ldS 1 rfl rfl isAgg119 rfl rfl ha hS) (dj_val rfl rfl (sub_of [1, 8, 5] rfl) (fun _ _ h => r_fl (q := 0) (ft := 3) runUnderlying78 rfl sizeOf3 rfl h) (dj_ld rfl rfl (sub_of [1, 8, 5] rfl) (fun a w ha hS => r_ldS 0 rfl rfl isAgg3 rfl rfl ha hS) (dj_val rfl rfl (sub_of [1, 8, 5] rfl) (fun _ _ h => r_idxI _ runUnderlying119 sizeOf125 rfl hpeF rfl hzF hltF h) (dj_ld rfl rfl (sub_of [1, 8, 5] rfl) (fun a w ha hS => r_load isAgg125 rfl (hOF.cell (hS.1 (ro yF) (by simp) honF) (ptrAt_pos h168 (hlF ▸ hltF))) ha) (dj_val rfl rfl (sub_of [1, 8, 5] rfl) (fun _ _ h => r_fl (q := 0) (ft := 125) runUnderlying133 rfl sizeOf125 rfl h) (dj_eff rfl fun K2 hK2 => ?_)))))))))
        refine j_storeN (cs' := [_, _, _]) (H' := [_, _, _, _, _, _, _, _, _, _, _, _]) 0 rfl rfl rfl rfl sizeOf125 rfl rfl rfl rfl rfl rfl rfl ?_
        refine j_nil (ej_then (hK2 _ _ (.inl rfl) ?_)); clear hK2 K2
        refine dj_end (ej_then (hK37 _ _ _ (CJ.s [(1, _), (3, _), (12, _), (15, _), (130, _), (131, _), (132, _), (157, _), (158, _), (159, _)] ⟨rfl, rfl, rfl, rfl, rfl, rfl, rfl, rfl, rfl, rfl, trivial⟩ ?_)))
        refine cj_drawI 10 [(0, true), (1, true), (2, true), (3, true), (4, true), (5, true), (6, false), (7, false), (8, true), (9, true), (10, false)] [0, 3] rfl (by kernel_rfl) (by kernel_rfl) ?_
        refine dj_val rfl rfl (sub_of [0, 3] rfl) (fun _ _ h => r_move rfl h) (dj_val rfl rfl (sub_of [0, 3] rfl) (fun _ _ h => r_move rfl h) (dj_val rfl rfl (sub_of [0, 3] rfl) (fun _ _ h => r_nil rfl h) (dj_val rfl rfl (sub_of [0, 3] rfl) (fun _ _ h => r_fl (q := 3) (ft := 129) runUnderlying131 rfl sizeOf129 rfl h) (dj_ld rfl rfl (sub_of [0, 3] rfl) (fun a w ha hS => r_ldS 1 rfl rfl isAgg129 rfl rfl ha hS) (dj_ld rfl rfl (sub_of [0, 3] rfl) (fun a w ha hS => r_ldSA (vs := [_, _, _]) 0 rfl rfl isAgg133 sizeOf133 rfl rfl rfl ha hS) (dj_eff rfl fun K2 hK2 => ?_))))))
        refine j_bslice1 runUnderlying129 sizeOf133 zeroValue133 rfl rfl rfl rfl rfl fun b184 => ?_
        refine j_nil (ej_then (hK2 _ _ (.inr (sub_of [1, 4] rfl)) ?_)); clear hK2 K2
        refine dj_eff rfl fun K2 hK2 => ?_
        refine j_appO 2 rfl hON runUnderlying129 el133 rfl rfl rfl rfl rfl (by omega) rfl fun y185 p185 c185 hO185 => ?_
        refine j_nil (ej_then (hK2 _ _ (.inr (sub_of [0, 3] rfl)) ?_)); clear hK2 K2
        refine dj_val rfl rfl (sub_of [0, 3] rfl) (fun _ _ h => r_nil rfl h) (dj_val rfl rfl (sub_of [0, 3] rfl) (fun _ _ h => r_fl (q := 3) (ft := 129) runUnderlying131 rfl sizeOf129 rfl h) (dj_eff rfl fun K2 hK2 => ?_))
        refine j_storeN (cs' := [_, _, _, _, _, _]) (H' := [_, _, _, _, _, _, _, _, _, _, _, _]) 3 rfl rfl rfl rfl sizeOf129 rfl rfl rfl rfl rfl rfl rfl ?_
        refine j_nil (ej_then (hK2 _ _ (.inl rfl) ?_)); clear hK2 K2
        refine dj_end (ej_blk (ej_then (hK34 _ _ _ (CJ.s [(1, _), (3, _), (12, _), (130, _), (131, _), (132, _), (157, _), (158, _), (159, _)] ⟨rfl, rfl, rfl, rfl, rfl, rfl, rfl, rfl, rfl, trivial⟩ (cj_reg (j_val rfl (fun _ _ h => r_inc (by omega) rfl rfl h) (jM rfl rfl (j_nil (ej_then ?_)))))))))
        have hfm : Own tLine 3 y185 p185 (j + 1) c185 ((x.locs[kL].lines.take (j + 1)).flatMap (cLine bF)) := by
         rw [← flatMap_step hj']
         first
         | exact hO185
         | (rw [show cLine bF x.locs[kL].lines[j] = [.pointer none, .int .i64 x.locs[kL].lines[j].line, .int .u64 0] from by simp [cLine, ptrAt_neg h168]]; exact hO185)
        exact fun w' hH hf => hKN (j + 1, y185, p185, c185) _ w' ⟨hj', hfm⟩ hf hH.2.2.2.2.2.2 (by simp only; omega) ⟨rfl, rfl, rfl, rfl, rfl, rfl, rfl, rfl, rfl, trivial⟩
       ·refine cj_skip (ej_then (hK37 _ _ _ (CJ.s [(1, _), (3, _), (12, _), (15, _), (130, _), (131, _), (132, _), (157, _), (158, _), (159, _)] ⟨rfl, rfl, rfl, rfl, rfl, rfl, rfl, rfl, rfl, rfl, trivial⟩ ?_)))
        refine cj_drawI 10 [(0, true), (1, true), (2, true), (3, true), (4, true), (5, true), (6, false), (7, false), (8, true), (9, true), (10, false)] [0, 3] rfl (by kernel_rfl) (by kernel_rfl) ?_
        refine dj_val rfl rfl (sub_of [0, 3] rfl) (fun _ _ h => r_move rfl h) (dj_val rfl rfl (sub_of [0, 3] rfl) (fun _ _ h => r_move rfl h) (dj_val rfl rfl (sub_of [0, 3] rfl) (fun _ _ h => r_nil rfl h) (dj_val rfl rfl (sub_of [0, 3] rfl) (fun _ _ h => r_fl (q := 3) (ft := 129) runUnderlying131 rfl sizeOf129 rfl h) (dj_ld rfl rfl (sub_of [0, 3] rfl) (fun a w ha hS => r_ldS 1 rfl rfl isAgg129 rfl rfl ha hS) (dj_ld rfl rfl (sub_of [0, 3] rfl) (fun a w ha hS => r_ldSA (vs := [_, _, _]) 0 rfl rfl isAgg133 sizeOf133 rfl rfl rfl ha hS) (dj_eff rfl fun K2 hK2 => ?_))))))
        refine j_bslice1 runUnderlying129 sizeOf133 zeroValue133 rfl rfl rfl rfl rfl fun b184 => ?_
        refine j_nil (ej_then (hK2 _ _ (.inr (sub_of [1, 4] rfl)) ?_)); clear hK2 K2
        refine dj_eff rfl fun K2 hK2 => ?_
        refine j_appO 2 rfl hON runUnderlying129 el133 rfl rfl rfl rfl rfl (by omega) rfl fun y185 p185 c185 hO185 => ?_
        refine j_nil (ej_then (hK2 _ _ (.inr (sub_of [0, 3] rfl)) ?_)); clear hK2 K2
        refine dj_val rfl rfl (sub_of [0, 3] rfl) (fun _ _ h => r_nil rfl h) (dj_val rfl rfl (sub_of [0, 3] rfl) (fun _ _ h => r_fl (q := 3) (ft := 129) runUnderlying131 rfl sizeOf129 rfl h) (dj_eff rfl fun K2 hK2 => ?_))
        refine j_storeN (cs' := [_, _, _, _, _, _]) (H' := [_, _, _, _, _, _, _, _, _, _, _, _]) 3 rfl rfl rfl rfl sizeOf129 rfl rfl rfl rfl rfl rfl rfl ?_
        refine j_nil (ej_then (hK2 _ _ (.inl rfl) ?_)); clear hK2 K2
        refine dj_end (ej_blk (ej_then (hK34 _ _ _ (CJ.s [(1, _), (3, _), (12, _), (130, _), (131, _), (132, _), (157, _), (158, _), (159, _)] ⟨rfl, rfl, rfl, rfl, rfl, rfl, rfl, rfl, rfl, trivial⟩ (cj_reg (j_val rfl (fun _ _ h => r_inc (by omega) rfl rfl h) (jM rfl rfl (j_nil (ej_then ?_)))))))))
        have hfm : Own tLine 3 y185 p185 (j + 1) c185 ((x.locs[kL].lines.take (j + 1)).flatMap (cLine bF)) := by
         rw [← flatMap_step hj']
         first
         | exact hO185
         | (rw [show cLine bF x.locs[kL].lines[j] = [.pointer none, .int .i64 x.locs[kL].lines[j].line, .int .u64 0] from by simp [cLine, ptrAt_neg h168]]; exact hO185)
        exact fun w' hH hf => hKN (j + 1, y185, p185, c185) _ w' ⟨hj', hfm⟩ hf hH.2.2.2.2.2.2 (by simp only; omega) ⟨rfl, rfl, rfl, rfl, rfl, rfl, rfl, rfl, rfl, trivial⟩
      ·have hON' : Own tLine 3 yN pN j cN (x.locs[kL].lines.flatMap (cLine bF)) := by rw [List.take_of_length_le (by omega)] at hON; exact hON
       refine cj_exit (ej_then_exit (ej_then_exit (ej_blk_hit (ej_then (hK30 _ _ _ (CJ.s [(1, _), (3, _), (12, _), (130, _), (131, _), (132, _)] ⟨rfl, rfl, rfl, rfl, rfl, rfl, trivial⟩ (cj_reg (jM rfl rfl (jM rfl rfl (jN rfl rfl (j_val rfl (fun _ _ h => r_fl (q := 4) (ft := 118) runUnderlying121 rfl sizeOf118 rfl h) (j_valw rfl (fun a w ha hH hf => r_ldH 6 rfl rfl isAgg118 rfl rfl ha hH) (jM rfl rfl ?_)))))))))))))
       refine j_bslice1 runUnderlying118 sizeOf128 zeroValue128 rfl rfl rfl rfl rfl fun b195 => ?_
       refine j_appO 2 rfl hOL runUnderlying118 el128 rfl rfl rfl rfl rfl (by omega) rfl fun y196 p196 c196 hO196 => ?_
       refine jN rfl rfl (j_val rfl (fun _ _ h => r_fl (q := 4) (ft := 118) runUnderlying121 rfl sizeOf118 rfl h) ?_)
       refine j_storeN (cs' := [_, _, _, _, _, _, _, _, _, _, _, _, _, _, _, _, _, _]) (H' := [_, _, _, _, _, _, _, _, _, _]) 6 rfl rfl rfl rfl sizeOf118 rfl rfl rfl rfl rfl rfl rfl ?_
       refine j_nil (ej_blk (ej_then (hK25 _ _ _ (CJ.s [(1, _), (3, _), (130, _), (131, _), (132, _)] ⟨rfl, rfl, rfl, rfl, rfl, trivial⟩ (cj_reg (j_val rfl (fun _ _ h => r_inc (by omega) rfl rfl h) (jM rfl rfl (j_nil (ej_then ?_)))))))))
       exact fun w' hH hf => hKLL (kL + 1, y196, p196, c196, bL ++ [b141]) _ w' ⟨hkL, by rw [← ptrs_push]; exact hO196, hpL.push hkL hf.size (fun _ _ h => ⟨h.1.mono (fun _ _ h => ok_blk hf h rfl) (fun _ _ h => ok_blk hf h rfl), h.2.mono fun _ _ h => ok_blk hf h rfl⟩) ⟨⟨_, hH.get (i := 1) rfl rfl, hON'.os (i := 0) hH rfl⟩, ⟨_, hH.get (i := 1) rfl rfl, rowGe_own hON' hH (i := 0) rfl hs4⟩⟩ (hH.fresh' (i := 1) rfl rfl) hs4 (hH.get (i := 1) rfl rfl).lt, ⟨hB39.1, hB39.2.1, Nat.lt_of_lt_of_le hB39.2.2 hf.size⟩, hPT.mono hf.size (fun _ _ h => ok_blk hf h rfl), hPM.mono hf.size (fun _ _ h => ok_blk hf h rfl), hPF.mono hf.size (fun _ _ h => ok_blk hf h rfl)⟩ (ok_back hf4 (.inr fun _ h => h) hf) (hH.2.2.2.2.2.2.back hf4.size (.inr fun _ h => h)) (by simp only; omega) ⟨rfl, rfl, rfl, rfl, rfl, trivial⟩
     ·refine cj_skip (ej_then (hK28 _ _ _ (CJ.s [(1, _), (3, _), (11, _), (12, _), (130, _), (131, _), (132, _)] ⟨rfl, rfl, rfl, rfl, rfl, rfl, rfl, trivial⟩ (cj_seqF fun K39 hK39 => cj_seqF fun K40 hK40 => cj_reg (j_val rfl (fun _ _ h => r_fl (q := 3) (ft := 74) runUnderlying76 rfl sizeOf74 rfl h) (j_valw rfl (fun a w ha hH hf => r_ldH 1 rfl rfl isAgg74 rfl rfl ha hH) (j_val rfl (fun _ _ h => r_len runUnderlying74 rfl h) (jM rfl rfl (j_nil (ej_then (hK40 _ _ _ (CJ.s [(1, _), (3, _), (12, _), (130, _), (131, _), (132, _), (157, _), (158, _), (159, _)] ⟨rfl, rfl, rfl, rfl, rfl, rfl, rfl, rfl, rfl, trivial⟩ (cj_block ?_)))))))))))))
      -- LOOP 5 live [1, 3, 12, 130, 131, 132, 157, 158, 159]
      refine cj_loop (σ := Nat × Ent × Option Addr × Nat) (fun s => [(1, ptr b1), (3, ptr b41), (12, ptr b141), (130, .slice (some ⟨qb, qo, none⟩) x.locs.length cl), (131, .int .i64 (x.locs.length : Nat)), (132, .int .i64 (kL : Nat)), (157, .slice p1 x.locs[kL].lines.length c1), (158, .int .i64 (x.locs[kL].lines.length : Nat)), (159, .int .i64 (s.1 : Nat))])
       (fun s => [s.2.1, ⟨b141, tLoc, cLoc bM x.locs[kL] (.slice s.2.2.1 s.1 s.2.2.2), true, true, none⟩, yL, ro yF, ro yM, ro yT, eProf b41 x (.slice pT kT cT) (.slice none 0 0) (.slice pM kM cM) (.slice pL kL cL) (.slice pF kF cF) (.slice p26 (0 + x.comments.length) c26) b39, ⟨b39, tVT, cVT x.per, false, true, none⟩, ro y26, ⟨b1, 31, [.slice pt x.types.length ct, .string x.deflt, .slice ps x.samples.length csm, .slice pm x.mappings.length cm, .slice (some ⟨qb, qo, none⟩) x.locs.length cl, .slice pf x.funcs.length cf, .slice pc x.comments.length cc, .string x.drop, .string x.keep, .int .i64 x.time, .int .i64 x.dur, .int .i64 x.period, .string x.per.ty, .string x.per.unit], false, true, none⟩])
       (fun s w' => s.1 ≤ x.locs[kL].lines.length ∧ Own tLine 3 s.2.1 s.2.2.1 s.1 s.2.2.2 ((x.locs[kL].lines.take s.1).flatMap (cLine bF)))
       (fun s => x.locs[kL].lines.length - s.1) (0, nilE tLine, none, 0) ⟨rfl, rfl, rfl, rfl, rfl, rfl, rfl, rfl, rfl, trivial⟩ (fun w' hH hf => ⟨by
       have e : cLoc bM x.locs[kL] (.slice none 0 0) = [.int .u64 x.locs[kL].id, .pointer none, .int .u64 x.locs[kL].addr, .slice none 0 0, .bool false, .int .u64 0] := by simp [cLoc, ptrAt_neg h144]
       show Hp _ _ (_ :: ⟨b141, tLoc, cLoc bM x.locs[kL] (.slice none 0 0), true, true, none⟩ :: _)
       rw [e]
       exact (hH.drop 1).off, Nat.zero_le _, Own.nil⟩) ?_
      rintro ⟨j, yN, pN, cN⟩ wN ⟨hj, hON⟩ hfN hHN KN hKN
      refine C.begin _ [yN, ⟨b141, tLoc, cLoc bM x.locs[kL] (.slice pN j cN), true, true, none⟩, yL, ro yF, ro yM, ro yT, eProf b41 x (.slice pT kT cT) (.slice none 0 0) (.slice pM kM cM) (.slice pL kL cL) (.slice pF kF cF) (.slice p26 (0 + x.comments.length) c26) b39, ⟨b39, tVT, cVT x.per, false, true, none⟩, ro y26, ⟨b1, 31, [.slice pt x.types.length ct, .string x.deflt, .slice ps x.samples.length csm, .slice pm x.mappings.length cm, .slice (some ⟨qb, qo, none⟩) x.locs.length cl, .slice pf x.funcs.length cf, .slice pc x.comments.length cc, .string x.drop, .string x.keep, .int .i64 x.time, .int .i64 x.dur, .int .i64 x.period, .string x.per.ty, .string x.per.unit], false, true, none⟩] hfN hHN ?_
      refine CJ.s [(1, _), (3, _), (12, _), (130, _), (131, _), (132, _), (157, _), (158, _), (159, .int .i64 (j : Nat))] ⟨rfl, rfl, rfl, rfl, rfl, rfl, rfl, rfl, rfl, trivial⟩ (cj_seqF fun K41 hK41 => cj_reg (j_val rfl (fun _ _ h => r_lss rfl rfl h) (j_nil (ej_then (hK41 _ _ _ (CJ.s [(1, _), (3, _), (12, _), (130, _), (131, _), (132, _), (157, _), (158, _), (159, _), (160, _)] ⟨rfl, rfl, rfl, rfl, rfl, rfl, rfl, rfl, rfl, rfl, trivial⟩ (cj_seqF fun K42 hK42 => ?_)))))))
      refine cj_dec rfl (fun h160 => ?_) (fun h160 => ?_)
      ·have hj' : j < x.locs[kL].lines.length := by omega
       obtain ⟨qb2, qo2, cs2, rfl, -, hR2, hcell2⟩ := hx1 j x.locs[kL].lines[j] (List.getElem?_eq_getElem hj')
       obtain ⟨rfl, -, -⟩ := hR2
       have hfn := hlin x.locs[kL].lines[j] (List.getElem_mem hj')
       refine cj_skip (ej_then (hK42 _ _ _ (CJ.s [(1, _), (3, _), (12, _), (130, _), (131, _), (132, _), (157, _), (158, _), (159, _)] ⟨rfl, rfl, rfl, rfl, rfl, rfl, rfl, rfl, rfl, trivial⟩ (cj_seqF fun K43 hK43 => cj_block (cj_seqF fun K44 hK44 => cj_reg (j_val rfl (fun _ _ h => r_idx runUnderlying74 sizeOf78 rfl rfl (by omega) h) (j_valw rfl (fun a w ha hH hf => r_loadA isAgg78 sizeOf78 rfl rfl (hcell2 w (hKd _ _ hf)) ha) ?_)))))))
       refine j_allocA (zs := [(.int .i64 0), (.int .i64 0)]) zeroValue78 rfl fun b14 => ?_
       refine j_storeN (cs' := [_, _]) (H' := [_, _, _, _, _, _, _, _, _, _, _]) 0 rfl rfl rfl rfl sizeOf78 rfl rfl rfl rfl rfl rfl rfl ?_
       refine j_nil (ej_then (hK44 _ _ _ (CJ.s [(1, _), (3, _), (12, _), (14, _), (130, _), (131, _), (132, _), (157, _), (158, _), (159, _)] ⟨rfl, rfl, rfl, rfl, rfl, rfl, rfl, rfl, rfl, rfl, trivial⟩ (cj_seqF fun K45 hK45 => cj_reg (j_val rfl (fun _ _ h => r_fl (q := 1) (ft := 2) runUnderlying78 rfl sizeOf2 rfl h) (j_valw rfl (fun a w ha hH hf => r_ldH 0 rfl rfl isAgg2 rfl rfl ha hH) (j_val rfl (fun _ _ h => r_build (cs := [(.pointer none), _, (.int .u64 0)]) bt133 rfl rfl h) ?_)))))))
       refine j_allocA (zs := [(.pointer none), (.int .i64 0), (.int .u64 0)]) zeroValue133 rfl fun b15 => ?_
       refine j_storeN (cs' := [_, _, _]) (H' := [_, _, _, _, _, _, _, _, _, _, _, _]) 0 rfl rfl rfl rfl sizeOf133 rfl rfl rfl rfl rfl rfl rfl ?_
       refine j_nil (ej_then (hK45 _ _ _ (CJ.s [(1, _), (3, _), (12, _), (14, _), (15, _), (130, _), (131, _), (132, _), (157, _), (158, _), (159, _)] ⟨rfl, rfl, rfl, rfl, rfl, rfl, rfl, rfl, rfl, rfl, rfl, trivial⟩ (cj_seqF fun K46 hK46 => cj_seqF fun K47 hK47 => cj_reg (j_val rfl (fun _ _ h => r_fl (q := 0) (ft := 3) runUnderlying78 rfl sizeOf3 rfl h) (j_valw rfl (fun a w ha hH hf => r_ldH 1 rfl rfl isAgg3 rfl rfl ha hH) (j_val rfl (fun _ _ h => r_geq rfl rfl h) (j_nil (ej_then (hK47 _ _ _ (CJ.s [(1, _), (3, _), (12, _), (14, _), (15, _), (130, _), (131, _), (132, _), (157, _), (158, _), (159, _), (168, _)] ⟨rfl, rfl, rfl, rfl, rfl, rfl, rfl, rfl, rfl, rfl, rfl, rfl, trivial⟩ ?_)))))))))))
       refine cj_dec rfl (fun h168 => ?_) (fun h168 => ?_)
       ·have hzF : x.locs[kL].lines[j].fn = ((x.locs[kL].lines[j].fn.toNat : Nat) : Int) := by omega
        have hltF : x.locs[kL].lines[j].fn.toNat < kF := by omega
        obtain ⟨honF, hpeF⟩ := hOF.pos (by omega)
        refine cj_drawI 9 [(0, true), (1, true), (2, true), (3, true), (4, true), (5, true), (6, true), (7, true), (8, true), (9, false)] [1, 8, 5] rfl (by kernel_rfl) (by kernel_rfl) ?_
        refine dj_val rfl rfl (sub_of [1, 8, 5] rfl) (fun _ _ h => r_move rfl h) (dj_val rfl rfl (sub_of [1, 8, 5] rfl) (fun _ _ h => r_nil rfl h) (dj_val rfl rfl (sub_of [1, 8, 5] rfl) (fun _ _ h => r_fl (q := 5) (ft := 119) runUnderlying121 rfl sizeOf119 rfl h) (dj_ld rfl rfl (sub_of [1, 8, 5] rfl) (fun a w ha hS => r_ldS 1 rfl rfl isAgg119 rfl rfl ha hS) (dj_val rfl rfl (sub_of [1, 8, 5] rfl) (fun _ _ h => r_fl (q := 0) (ft := 3) runUnderlying78 rfl sizeOf3 rfl h) (dj_ld rfl rfl (sub_of [1, 8, 5] rfl) (fun a w ha hS => r_ldS 0 rfl rfl isAgg3 rfl rfl ha hS) (dj_val rfl rfl (sub_of [1, 8, 5] rfl) (fun _ _ h => r_idxI _ runUnderlying119 sizeOf125 rfl hpeF rfl hzF hltF h) (dj_ld rfl rfl (sub_of [1, 8, 5] rfl) (fun a w ha hS => r_load isAgg125 rfl (hOF.cell (hS.1 (ro yF) (by simp) honF) (ptrAt_pos h168 (hlF ▸ hltF))) ha) (dj_val rfl rfl (sub_of [1, 8, 5] rfl) (fun _ _ h => r_fl (q := 0) (ft := 125) runUnderlying133 rfl sizeOf125 rfl h) (dj_eff rfl fun K2 hK2 => ?_)))))))))
        refine j_storeN (cs' := [_, _, _]) (H' := [_, _, _, _, _, _, _, _, _, _, _, _]) 0 rfl rfl rfl rfl sizeOf125 rfl rfl rfl rfl rfl rfl rfl ?_
        refine j_nil (ej_then (hK2 _ _ (.inl rfl) ?_)); clear hK2 K2
        refine dj_end (ej_then (hK46 _ _ _ (CJ.s [(1, _), (3, _), (12, _), (15, _), (130, _), (131, _), (132, _), (157, _), (158, _), (159, _)] ⟨rfl, rfl, rfl, rfl, rfl, rfl, rfl, rfl, rfl, rfl, trivial⟩ ?_)))
        refine cj_drawI 10 [(0, true), (1, true), (2, true), (3, true), (4, true), (5, true), (6, false), (7, false), (8, true), (9, true), (10, false)] [0, 3] rfl (by kernel_rfl) (by kernel_rfl) ?_
        refine dj_val rfl rfl (sub_of [0, 3] rfl) (fun _ _ h => r_move rfl h) (dj_val rfl rfl (sub_of [0, 3] rfl) (fun _ _ h => r_move rfl h) (dj_val rfl rfl (sub_of [0, 3] rfl) (fun _ _ h => r_nil rfl h) (dj_val rfl rfl (sub_of [0, 3] rfl) (fun _ _ h => r_fl (q := 3) (ft := 129) runUnderlying131 rfl sizeOf129 rfl h) (dj_ld rfl rfl (sub_of [0, 3] rfl) (fun a w ha hS => r_ldS 1 rfl rfl isAgg129 rfl rfl ha hS) (dj_ld rfl rfl (sub_of [0, 3] rfl) (fun a w ha hS => r_ldSA (vs := [_, _, _]) 0 rfl rfl isAgg133 sizeOf133 rfl rfl rfl ha hS) (dj_eff rfl fun K2 hK2 => ?_))))))
        refine j_bslice1 runUnderlying129 sizeOf133 zeroValue133 rfl rfl rfl rfl rfl fun b184 => ?_
        refine j_nil (ej_then (hK2 _ _ (.inr (sub_of [1, 4] rfl)) ?_)); clear hK2 K2
        refine dj_eff rfl fun K2 hK2 => ?_
        refine j_appO 2 rfl hON runUnderlying129 el133 rfl rfl rfl rfl rfl (by omega) rfl fun y185 p185 c185 hO185 => ?_
        refine j_nil (ej_then (hK2 _ _ (.inr (sub_of [0, 3] rfl)) ?_)); clear hK2 K2
        refine dj_val rfl rfl (sub_of [0, 3] rfl) (fun _ _ h => r_nil rfl h) (dj_val rfl rfl (sub_of [0, 3] rfl) (fun _ _ h => r_fl (q := 3) (ft := 129) runUnderlying131 rfl sizeOf129 rfl h) (dj_eff rfl fun K2 hK2 => ?_))
        refine j_storeN (cs' := [_, _, _, _, _, _]) (H' := [_, _, _, _, _, _, _, _, _, _, _, _]) 3 rfl rfl rfl rfl sizeOf129 rfl rfl rfl rfl rfl rfl rfl ?_
        refine j_nil (ej_then (hK2 _ _ (.inl rfl) ?_)); clear hK2 K2
        refine dj_end (ej_blk (ej_then (hK43 _ _ _ (CJ.s [(1, _), (3, _), (12, _), (130, _), (131, _), (132, _), (157, _), (158, _), (159, _)] ⟨rfl, rfl, rfl, rfl, rfl, rfl, rfl, rfl, rfl, trivial⟩ (cj_reg (j_val rfl (fun _ _ h => r_inc (by omega) rfl rfl h) (jM rfl rfl (j_nil (ej_then ?_)))))))))
        have hfm : Own tLine 3 y185 p185 (j + 1) c185 ((x.locs[kL].lines.take (j + 1)).flatMap (cLine bF)) := by
         rw [← flatMap_step hj']
         first
         | exact hO185
         | (rw [show cLine bF x.locs[kL].lines[j] = [.pointer none, .int .i64 x.locs[kL].lines[j].line, .int .u64 0] from by simp [cLine, ptrAt_neg h168]]; exact hO185)
        exact fun w' hH hf => hKN (j + 1, y185, p185, c185) _ w' ⟨hj', hfm⟩ hf hH.2.2.2.2.2.2 (by simp only; omega) ⟨rfl, rfl, rfl, rfl, rfl, rfl, rfl, rfl, rfl, trivial⟩
       ·refine cj_skip (ej_then (hK46 _ _ _ (CJ.s [(1, _), (3, _), (12, _), (15, _), (130, _), (131, _), (132, _), (157, _), (158, _), (159, _)] ⟨rfl, rfl, rfl, rfl, rfl, rfl, rfl, rfl, rfl, rfl, trivial⟩ ?_)))
        refine cj_drawI 10 [(0, true), (1, true), (2, true), (3, true), (4, true), (5, true), (6, false), (7, false), (8, true), (9, true), (10, false)] [0, 3] rfl (by kernel_rfl) (by kernel_rfl) ?_
        refine dj_val rfl rfl (sub_of [0, 3] rfl) (fun _ _ h => r_move rfl h) (dj_val rfl rfl (sub_of [0, 3] rfl) (fun _ _ h => r_move rfl h) (dj_val rfl rfl (sub_of [0, 3] rfl) (fun _ _ h => r_nil rfl h) (dj_val rfl rfl (sub_of [0, 3] rfl) (fun _ _ h => r_fl (q := 3) (ft := 129) runUnderlying131 rfl sizeOf129 rfl h) (dj_ld rfl rfl (sub_of [0, 3] rfl) (fun a w ha hS => r_ldS 1 rfl rfl isAgg129 rfl rfl ha hS) (dj_ld rfl rfl (sub_of [0, 3] rfl) (fun a w ha hS => r_ldSA (vs := [_, _, _]) 0 rfl rfl isAgg133 sizeOf133 rfl rfl rfl ha hS) (dj_eff rfl fun K2 hK2 => ?_))))))
        refine j_bslice1 runUnderlying129 sizeOf133 zeroValue133 rfl rfl rfl rfl rfl fun b184 => ?_
        refine j_nil (ej_then (hK2 _ _ (.inr (sub_of [1, 4] rfl)) ?_)); clear hK2 K2
        refine dj_eff rfl fun K2 hK2 => ?_
        refine j_appO 2 rfl hON runUnderlying129 el133 rfl rfl rfl rfl rfl (by omega) rfl fun y185 p185 c185 hO185 => ?_
        refine j_nil (ej_then (hK2 _ _ (.inr (sub_of [0, 3] rfl)) ?_)); clear hK2 K2
        refine dj_val rfl rfl (sub_of [0, 3] rfl) (fun _ _ h => r_nil rfl h) (dj_val rfl rfl (sub_of [0, 3] rfl) (fun _ _ h => r_fl (q := 3) (ft := 129) runUnderlying131 rfl sizeOf129 rfl h) (dj_eff rfl fun K2 hK2 => ?_))
        refine j_storeN (cs' := [_, _, _, _, _, _]) (H' := [_, _, _, _, _, _, _, _, _, _, _, _]) 3 rfl rfl rfl rfl sizeOf129 rfl rfl rfl rfl rfl rfl rfl ?_
        refine j_nil (ej_then (hK2 _ _ (.inl rfl) ?_)); clear hK2 K2
        refine dj_end (ej_blk (ej_then (hK43 _ _ _ (CJ.s [(1, _), (3, _), (12, _), (130, _), (131, _), (132, _), (157, _), (158, _), (159, _)] ⟨rfl, rfl, rfl, rfl, rfl, rfl, rfl, rfl, rfl, trivial⟩ (cj_reg (j_val rfl (fun _ _ h => r_inc (by omega) rfl rfl h) (jM rfl rfl (j_nil (ej_then ?_)))))))))
        have hfm : Own tLine 3 y185 p185 (j + 1) c185 ((x.locs[kL].lines.take (j + 1)).flatMap (cLine bF)) := by
         rw [← flatMap_step hj']
         first
         | exact hO185
         | (rw [show cLine bF x.locs[kL].lines[j] = [.pointer none, .int .i64 x.locs[kL].lines[j].line, .int .u64 0] from by simp [cLine, ptrAt_neg h168]]; exact hO185)
        exact fun w' hH hf => hKN (j + 1, y185, p185, c185) _ w' ⟨hj', hfm⟩ hf hH.2.2.2.2.2.2 (by simp only; omega) ⟨rfl, rfl, rfl, rfl, rfl, rfl, rfl, rfl, rfl, trivial⟩
      ·have hON' : Own tLine 3 yN pN j cN (x.locs[kL].lines.flatMap (cLine bF)) := by rw [List.take_of_length_le (by omega)] at hON; exact hON
       refine cj_exit (ej_then_exit (ej_then_exit (ej_blk_hit (ej_then (hK39 _ _ _ (CJ.s [(1, _), (3, _), (12, _), (130, _), (131, _), (132, _)] ⟨rfl, rfl, rfl, rfl, rfl, rfl, trivial⟩ (cj_reg (jM rfl rfl (jM rfl rfl (jN rfl rfl (j_val rfl (fun _ _ h => r_fl (q := 4) (ft := 118) runUnderlying121 rfl sizeOf118 rfl h) (j_valw rfl (fun a w ha hH hf => r_ldH 6 rfl rfl isAgg118 rfl rfl ha hH) (jM rfl rfl ?_)))))))))))))
       refine j_bslice1 runUnderlying118 sizeOf128 zeroValue128 rfl rfl rfl rfl rfl fun b195 => ?_
       refine j_appO 2 rfl hOL runUnderlying118 el128 rfl rfl rfl rfl rfl (by omega) rfl fun y196 p196 c196 hO196 => ?_
       refine jN rfl rfl (j_val rfl (fun _ _ h => r_fl (q := 4) (ft := 118) runUnderlying121 rfl sizeOf118 rfl h) ?_)
       refine j_storeN (cs' := [_, _, _, _, _, _, _, _, _, _, _, _, _, _, _, _, _, _]) (H' := [_, _, _, _, _, _, _, _, _, _]) 6 rfl rfl rfl rfl sizeOf118 rfl rfl rfl rfl rfl rfl rfl ?_
       refine j_nil (ej_blk (ej_then (hK25 _ _ _ (CJ.s [(1, _), (3, _), (130, _), (131, _), (132, _)] ⟨rfl, rfl, rfl, rfl, rfl, trivial⟩ (cj_reg (j_val rfl (fun _ _ h => r_inc (by omega) rfl rfl h) (jM rfl rfl (j_nil (ej_then ?_)))))))))
       exact fun w' hH hf => hKLL (kL + 1, y196, p196, c196, bL ++ [b141]) _ w' ⟨hkL, by rw [← ptrs_push]; exact hO196, hpL.push hkL hf.size (fun _ _ h => ⟨h.1.mono (fun _ _ h => ok_blk hf h rfl) (fun _ _ h => ok_blk hf h rfl), h.2.mono fun _ _ h => ok_blk hf h rfl⟩) ⟨⟨_, hH.get (i := 1) rfl rfl, hON'.os (i := 0) hH rfl⟩, ⟨_, hH.get (i := 1) rfl rfl, rowGe_own hON' hH (i := 0) rfl hs4⟩⟩ (hH.fresh' (i := 1) rfl rfl) hs4 (hH.get (i := 1) rfl rfl).lt, ⟨hB39.1, hB39.2.1, Nat.lt_of_lt_of_le hB39.2.2 hf.size⟩, hPT.mono hf.size (fun _ _ h => ok_blk hf h rfl), hPM.mono hf.size (fun _ _ h => ok_blk hf h rfl), hPF.mono hf.size (fun _ _ h => ok_blk hf h rfl)⟩ (ok_back hf4 (.inr fun _ h => h) hf) (hH.2.2.2.2.2.2.back hf4.size (.inr fun _ h => h)) (by simp only; omega) ⟨rfl, rfl, rfl, rfl, rfl, trivial⟩
    ·have hPL := hpL.full (by omega)
     refine cj_exit (ej_then_exit (ej_then_exit (ej_blk_hit (ej_then (hK21 _ _ _ (CJ.s [(1, _), (3, _)] ⟨rfl, rfl, trivial⟩ (cj_seqF fun K48 hK48 => cj_seqF fun K49 hK49 => cj_reg (j_val rfl (fun _ _ h => r_fl (q := 2) (ft := 23) runUnderlying31 rfl sizeOf23 rfl h) (j_valw rfl (fun a w ha hH hf => r_ldH 7 rfl rfl isAgg23 rfl rfl ha hH) (j_val rfl (fun _ _ h => r_len runUnderlying23 rfl h) (jM rfl rfl (j_nil (ej_then (hK49 _ _ _ (CJ.s [(3, _), (201, _), (202, _), (203, _)] ⟨rfl, rfl, rfl, rfl, trivial⟩ (cj_block ?_))))))))))))))))
     -- LOOP 6 live [3, 201, 202, 203]
     refine cj_loop (σ := Nat × Ent × Option Addr × Nat × List Nat) (fun s => [(3, ptr b41), (201, .slice ps x.samples.length csm), (202, .int .i64 (x.samples.length : Nat)), (203, .int .i64 (s.1 : Nat))])
      (fun s => [s.2.1, ro yL, ro yF, ro yM, ro yT, eProf b41 x (.slice pT kT cT) (.slice s.2.2.1 s.1 s.2.2.2.1) (.slice pM kM cM) (.slice pL kL cL) (.slice pF kF cF) (.slice p26 (0 + x.comments.length) c26) b39, ⟨b39, tVT, cVT x.per, false, true, none⟩, ro y26, ⟨b1, 31, [.slice pt x.types.length ct, .string x.deflt, .slice ps x.samples.length csm, .slice pm x.mappings.length cm, .slice pl x.locs.length cl, .slice pf x.funcs.length cf, .slice pc x.comments.length cc, .string x.drop, .string x.keep, .int .i64 x.time, .int .i64 x.dur, .int .i64 x.period, .string x.per.ty, .string x.per.unit], false, true, none⟩])
      (fun s w' => s.1 ≤ x.samples.length ∧ Own pSam 1 s.2.1 s.2.2.1 s.1 s.2.2.2.1 (s.2.2.2.2.map ptr) ∧ Part w.heap.size w' s.2.2.2.2 (x.samples.take s.1) (fun w => SamP w bL) ∧ (w.heap.size ≤ b39 ∧ w.heap.size ≤ b41 ∧ b39 < w'.heap.size) ∧ Part (b39 + 1) w' bT x.types φT ∧ Part w.heap.size w' bM x.mappings φM ∧ Part w.heap.size w' bF x.funcs φF ∧ Part w.heap.size w' bL x.locs (fun v b l => LocP v bM bF b l ∧ RowGe w.heap.size v b))
      (fun s => x.samples.length - s.1) (0, nilE pSam, none, 0, []) ⟨rfl, rfl, rfl, rfl, trivial⟩ (fun w' hH hf => ⟨Hp.off (hH.roHead), Nat.zero_le _, Own.nil, Part.nil, ⟨hB39.1, hB39.2.1, Nat.lt_of_lt_of_le hB39.2.2 hf.size⟩, hPT.mono hf.size (fun _ _ h => ok_blk hf h rfl), hPM.mono hf.size (fun _ _ h => ok_blk hf h rfl), hPF.mono hf.size (fun _ _ h => ok_blk hf h rfl), hPL.mono hf.size (fun _ _ h => ⟨h.1.mono (fun _ _ h => ok_blk hf h rfl) (fun _ _ h => ok_blk hf h rfl), h.2.mono fun _ _ h => ok_blk hf h rfl⟩)⟩) ?_
     rintro ⟨kS, yS, pS, cS, bS⟩ w5 ⟨hk, hOS, hpS, hB39, hPT, hPM, hPF, hPL⟩ hf5 hH5 KLS hKLS
     have hs5 : w.heap.size ≤ w5.heap.size := Nat.le_trans hs4 hf5.size
     have hk5 : Keep w w5 := hKd _ _ hf5
     have hKd := fun W => keepOf (W := W) hk5 (Nat.le_refl _)
     have hH := hH5.again (W := [tProf, pSam]) hs4 (TagOK.own (.ro (.ro (.ro (.ro (.row (.ro (.ro (.ro .nil rfl) rfl) rfl) rfl) rfl) rfl) rfl) rfl) hOS rfl)
     refine C.begin ⟨w5, w.heap.size, [tProf, pSam]⟩ [yS, ro yL, ro yF, ro yM, ro yT, eProf b41 x (.slice pT kT cT) (.slice pS kS cS) (.slice pM kM cM) (.slice pL kL cL) (.slice pF kF cF) (.slice p26 (0 + x.comments.length) c26) b39, ⟨b39, tVT, cVT x.per, false, true, none⟩, ro y26, ⟨b1, 31, [.slice pt x.types.length ct, .string x.deflt, .slice ps x.samples.length csm, .slice pm x.mappings.length cm, .slice pl x.locs.length cl, .slice pf x.funcs.length cf, .slice pc x.comments.length cc, .string x.drop, .string x.keep, .int .i64 x.time, .int .i64 x.dur, .int .i64 x.period, .string x.per.ty, .string x.per.unit], false, true, none⟩] ok_refl hH ?_
     refine CJ.s [(3, _), (201, _), (202, _), (203, .int .i64 (kS : Nat))] ⟨rfl, rfl, rfl, rfl, trivial⟩ ?_
     clear hH
     refine cj_seqF fun K50 hK50 => cj_reg (j_val rfl (fun _ _ h => r_lss rfl rfl h) (j_nil (ej_then (hK50 _ _ _ (CJ.s [(3, _), (201, _), (202, _), (203, _), (204, _)] ⟨rfl, rfl, rfl, rfl, rfl, trivial⟩ (cj_seqF fun K51 hK51 => ?_))))))
     refine cj_dec rfl (fun h204 => ?_) (fun h204 => ?_)
     ·have hkS : kS < x.samples.length := by omega
      obtain ⟨qb, qo, cs, rfl, hcs, hR, hcell⟩ := hxs kS x.samples[kS] (List.getElem?_eq_getElem hkS)
      have hR' := hR
      obtain ⟨l1, l2, l3, l4, rfl, hl1, hl2, hl3, hl4⟩ := hR
      obtain ⟨p1, c1, rfl, -, hx1⟩ := hl1.open
      obtain ⟨p2, c2, rfl, -, -⟩ := hl2.open
      obtain ⟨p3, c3, rfl, -, -⟩ := hl3.open
      obtain ⟨p4, c4, rfl, -, -⟩ := hl4.open
      obtain ⟨m1, m2, m3, m4, m5⟩ := hx.samples x.samples[kS] (List.getElem_mem hkS)
      have hlL : kL = bL.length := by have := hOL.sl.1; simp at this; omega
      have hlL2 := hPL.each.1
      refine cj_skip (ej_then (hK51 _ _ _ (CJ.s [(3, _), (201, _), (202, _), (203, _)] ⟨rfl, rfl, rfl, rfl, trivial⟩ (cj_seqF fun K52 hK52 => cj_block (cj_seqF fun K53 hK53 => cj_reg (j_val rfl (fun _ _ h => r_idx runUnderlying23 sizeOf50 rfl rfl (by omega) h) (j_valw rfl (fun a w ha hH hf => r_loadA isAgg50 sizeOf50 rfl rfl (hcell w (hKd _ _ hf)) ha) ?_)))))))
      refine j_allocA (zs := [(.slice none 0 0), (.slice none 0 0), (.slice none 0 0), (.slice none 0 0)]) zeroValue50 rfl fun b17 => ?_
      refine j_storeN (cs' := [_, _, _, _]) (H' := [_, _, _, _, _, _, _, _, _, _]) 0 rfl rfl rfl rfl sizeOf50 rfl rfl rfl rfl rfl rfl rfl ?_
      refine j_nil (ej_then (hK53 _ _ _ (CJ.s [(3, _), (17, _), (201, _), (202, _), (203, _)] ⟨rfl, rfl, rfl, rfl, rfl, trivial⟩ (cj_seqF fun K54 hK54 => cj_reg ?_))))
      refine j_bslice0 runUnderlying46 sizeOf2 rfl fun b207 => ?_
      refine j_val rfl (fun _ _ h => r_fl (q := 1) (ft := 46) runUnderlying50 rfl sizeOf46 rfl h) (j_valw rfl (fun a w ha hH hf => r_ldH 1 rfl rfl isAgg46 rfl rfl ha hH) ?_)
      refine j_appL 0 rfl Own.empty runUnderlying46 runUnderlying46 el2 rfl rfl rfl rfl (fun w hH hf w1 k1 => hl2.first1 (g := .int .i64) (fun _ _ h => h.1) w1 ((hKd _ _ hf).trans k1)) (fun _ => rfl) (by omega) rfl fun y210 p210 c210 hO210 => ?_
      refine j_val rfl (fun _ _ h => r_build (cs := [(.slice none 0 0), _, (.map none), (.map none), (.map none), (.slice none 0 0), (.slice none 0 0)]) bt139 rfl rfl h) ?_
      refine j_boxA (vs := [_, _, _, _, _, _, _]) rfl rfl fun b212 => ?_
      refine jA rfl rfl (j_nil (ej_then (hK54 _ _ _ (CJ.s [(3, _), (17, _), (18, _), (201, _), (202, _), (203, _)] ⟨rfl, rfl, rfl, rfl, rfl, rfl, trivial⟩ (cj_seqF fun K55 hK55 => cj_seqF fun K56 hK56 => cj_reg (j_val rfl (fun _ _ h => r_fl (q := 0) (ft := 45) runUnderlying50 rfl sizeOf45 rfl h) (j_valw rfl (fun a w ha hH hf => r_ldH 2 rfl rfl isAgg45 rfl rfl ha hH) (j_val rfl (fun _ _ h => r_len runUnderlying45 rfl h) (jM rfl rfl (j_nil (ej_then (hK56 _ _ _ (CJ.s [(3, _), (17, _), (18, _), (201, _), (202, _), (203, _), (214, _), (215, _), (216, _)] ⟨rfl, rfl, rfl, rfl, rfl, rfl, rfl, rfl, rfl, trivial⟩ ?_)))))))))))))
      refine cj_block ?_
      -- LOOP 7 live [3, 17, 18, 201, 202, 203, 214, 215, 216]
      refine cj_loop (σ := Nat × Ent × Option Addr × Nat) (fun s => [(3, ptr b41), (17, ptr b17), (18, ptr b212), (201, .slice (some ⟨qb, qo, none⟩) x.samples.length csm), (202, .int .i64 (x.samples.length : Nat)), (203, .int .i64 (kS : Nat)), (214, .slice p1 x.samples[kS].stack.length c1), (215, .int .i64 (x.samples[kS].stack.length : Nat)), (216, .int .i64 (s.1 : Nat))])
       (fun s => [s.2.1, ⟨b212, tSam, cSam (.slice s.2.2.1 s.1 s.2.2.2) (.slice p210 (0 + x.samples[kS].values.length) c210) (.map none) (.map none), true, true, none⟩, y210, ⟨b17, 50, [.slice p1 x.samples[kS].stack.length c1, .slice p2 x.samples[kS].values.length c2, .slice p3 x.samples[kS].texts.length c3, .slice p4 x.samples[kS].nums.length c4], true, true, none⟩, yS, ro yL, ro yF, ro yM, ro yT, eProf b41 x (.slice pT kT cT) (.slice pS kS cS) (.slice pM kM cM) (.slice pL kL cL) (.slice pF kF cF) (.slice p26 (0 + x.comments.length) c26) b39, ⟨b39, tVT, cVT x.per, false, true, none⟩, ro y26, ⟨b1, 31, [.slice pt x.types.length ct, .string x.deflt, .slice (some ⟨qb, qo, none⟩) x.samples.length csm, .slice pm x.mappings.length cm, .slice pl x.locs.length cl, .slice pf x.funcs.length cf, .slice pc x.comments.length cc, .string x.drop, .string x.keep, .int .i64 x.time, .int .i64 x.dur, .int .i64 x.period, .string x.per.ty, .string x.per.unit], false, true, none⟩])
       (fun s w' => s.1 ≤ x.samples[kS].stack.length ∧ Own pLoc 1 s.2.1 s.2.2.1 s.1 s.2.2.2 ((x.samples[kS].stack.take s.1).map (ptrAt bL)))
       (fun s => x.samples[kS].stack.length - s.1) (0, nilE pLoc, none, 0) ⟨rfl, rfl, rfl, rfl, rfl, rfl, rfl, rfl, rfl, trivial⟩ (fun w' hH hf => ⟨hH.off, Nat.zero_le _, Own.nil⟩) ?_
      rintro ⟨j, yK, pK, cK⟩ wK ⟨hj, hOK⟩ hfK hHK KK hKK
      refine C.begin _ [yK, ⟨b212, tSam, cSam (.slice pK j cK) (.slice p210 (0 + x.samples[kS].values.length) c210) (.map none) (.map none), true, true, none⟩, y210, ⟨b17, 50, [.slice p1 x.samples[kS].stack.length c1, .slice p2 x.samples[kS].values.length c2, .slice p3 x.samples[kS].texts.length c3, .slice p4 x.samples[kS].nums.length c4], true, true, none⟩, yS, ro yL, ro yF, ro yM, ro yT, eProf b41 x (.slice pT kT cT) (.slice pS kS cS) (.slice pM kM cM) (.slice pL kL cL) (.slice pF kF cF) (.slice p26 (0 + x.comments.length) c26) b39, ⟨b39, tVT, cVT x.per, false, true, none⟩, ro y26, ⟨b1, 31, [.slice pt x.types.length ct, .string x.deflt, .slice (some ⟨qb, qo, none⟩) x.samples.length csm, .slice pm x.mappings.length cm, .slice pl x.locs.length cl, .slice pf x.funcs.length cf, .slice pc x.comments.length cc, .string x.drop, .string x.keep, .int .i64 x.time, .int .i64 x.dur, .int .i64 x.period, .string x.per.ty, .string x.per.unit], false, true, none⟩] hfK hHK ?_
      refine CJ.s [(3, _), (17, _), (18, _), (201, _), (202, _), (203, _), (214, _), (215, _), (216, .int .i64 (j : Nat))] ⟨rfl, rfl, rfl, rfl, rfl, rfl, rfl, rfl, rfl, trivial⟩ (cj_seqF fun K57 hK57 => cj_reg (j_val rfl (fun _ _ h => r_lss rfl rfl h) (j_nil (ej_then (hK57 _ _ _ (CJ.s [(3, _), (17, _), (18, _), (201, _), (202, _), (203, _), (214, _), (215, _), (216, _), (217, _)] ⟨rfl, rfl, rfl, rfl, rfl, rfl, rfl, rfl, rfl, rfl, trivial⟩ (cj_seqF fun K58 hK58 => ?_)))))))
      refine cj_dec rfl (fun h217 => ?_) (fun h217 => ?_)
      ·have hj' : j < x.samples[kS].stack.length := by omega
       obtain ⟨qb2, qo2, cs2, rfl, -, hR2, hcell2⟩ := hx1 j x.samples[kS].stack[j] (List.getElem?_eq_getElem hj')
       obtain ⟨rfl, -⟩ := hR2
       obtain ⟨hz0, hz1⟩ := m5 x.samples[kS].stack[j] (List.getElem_mem hj')
       have hzL : x.samples[kS].stack[j] = ((x.samples[kS].stack[j].toNat : Nat) : Int) := by omega
       have hltL : x.samples[kS].stack[j].toNat < kL := by omega
       obtain ⟨honL, hpeL⟩ := hOL.pos (by omega)
       refine cj_skip (ej_then (hK58 _ _ _ (CJ.s [(3, _), (17, _), (18, _), (201, _), (202, _), (203, _), (214, _), (215, _), (216, _)] ⟨rfl, rfl, rfl, rfl, rfl, rfl, rfl, rfl, rfl, trivial⟩ (cj_seqF fun K59 hK59 => cj_block (cj_seqF fun K60 hK60 => cj_reg (j_val rfl (fun _ _ h => r_idx runUnderlying45 sizeOf3 rfl rfl (by omega) h) (j_valw rfl (fun a w ha hH hf => r_load isAgg3 rfl (hcell2 w (hKd _ _ hf) 0 _ rfl) ha) (jA rfl rfl (j_nil (ej_then (hK60 _ _ _ (CJ.s [(3, _), (17, _), (18, _), (20, _), (201, _), (202, _), (203, _), (214, _), (215, _), (216, _)] ⟨rfl, rfl, rfl, rfl, rfl, rfl, rfl, rfl, rfl, rfl, trivial⟩ ?_))))))))))))
       refine cj_drawI 16 [(0, true), (1, true), (2, true), (3, true), (4, true), (5, true), (6, true), (7, true), (8, true), (9, true), (10, true), (11, true), (12, false), (13, false), (14, true), (15, true), (16, false)] [1, 9, 5] rfl (by kernel_rfl) (by kernel_rfl) ?_
       refine dj_val rfl rfl (sub_of [1, 9, 5] rfl) (fun _ _ h => r_move rfl h) (dj_val rfl rfl (sub_of [1, 9, 5] rfl) (fun _ _ h => r_move rfl h) (dj_val rfl rfl (sub_of [1, 9, 5] rfl) (fun _ _ h => r_nil rfl h) (dj_val rfl rfl (sub_of [1, 9, 5] rfl) (fun _ _ h => r_fl (q := 0) (ft := 118) runUnderlying139 rfl sizeOf118 rfl h) (dj_ld rfl rfl (sub_of [1, 9, 5] rfl) (fun a w ha hS => r_ldS 0 rfl rfl isAgg118 rfl rfl ha hS) (dj_val rfl rfl (sub_of [1, 9, 5] rfl) (fun _ _ h => r_move rfl h) (dj_val rfl rfl (sub_of [1, 9, 5] rfl) (fun _ _ h => r_nil rfl h) (dj_val rfl rfl (sub_of [1, 9, 5] rfl) (fun _ _ h => r_fl (q := 4) (ft := 118) runUnderlying121 rfl sizeOf118 rfl h) (dj_ld rfl rfl (sub_of [1, 9, 5] rfl) (fun a w ha hS => r_ldS 1 rfl rfl isAgg118 rfl rfl ha hS) (dj_val rfl rfl (sub_of [1, 9, 5] rfl) (fun _ _ h => r_move rfl h) (dj_val rfl rfl (sub_of [1, 9, 5] rfl) (fun _ _ h => r_idxI _ runUnderlying118 sizeOf128 rfl hpeL rfl hzL hltL h) (dj_ld rfl rfl (sub_of [1, 9, 5] rfl) (fun a w ha hS => r_load isAgg128 rfl (hOL.cell (hS.1 (ro yL) (by simp) honL) (ptrAt_pos hz0 (hlL ▸ hltL))) ha) (dj_eff rfl fun K2 hK2 => ?_))))))))))))
       refine j_bslice1 runUnderlying118 sizeOf128 zeroValue128 rfl rfl rfl rfl rfl fun b232 => ?_
       refine j_nil (ej_then (hK2 _ _ (.inr (sub_of [2, 10, 6] rfl)) ?_)); clear hK2 K2
       refine dj_eff rfl fun K2 hK2 => ?_
       refine j_appO 0 rfl hOK runUnderlying118 el128 rfl rfl rfl rfl rfl (by omega) rfl fun y233 p233 c233 hO233 => ?_
       refine j_nil (ej_then (hK2 _ _ (.inr (sub_of [1, 9, 5] rfl)) ?_)); clear hK2 K2
       refine dj_val rfl rfl (sub_of [1, 9, 5] rfl) (fun _ _ h => r_nil rfl h) (dj_val rfl rfl (sub_of [1, 9, 5] rfl) (fun _ _ h => r_fl (q := 0) (ft := 118) runUnderlying139 rfl sizeOf118 rfl h) (dj_eff rfl fun K2 hK2 => ?_))
       refine j_storeN (cs' := [_, _, _, _, _, _, _]) (H' := [_, _, _, _, _, _, _, _, _, _, _, _, _]) 1 rfl rfl rfl rfl sizeOf118 rfl rfl rfl rfl rfl rfl rfl ?_
       refine j_nil (ej_then (hK2 _ _ (.inl rfl) ?_)); clear hK2 K2
       refine dj_end (ej_blk (ej_then (hK59 _ _ _ (CJ.s [(3, _), (17, _), (18, _), (201, _), (202, _), (203, _), (214, _), (215, _), (216, _)] ⟨rfl, rfl, rfl, rfl, rfl, rfl, rfl, rfl, rfl, trivial⟩ (cj_reg (j_val rfl (fun _ _ h => r_inc (by omega) rfl rfl h) (jM rfl rfl (j_nil (ej_then ?_)))))))))
       exact fun w' hH hf => hKK (j + 1, y233, p233, c233) _ w' ⟨hj', by rw [← ids_step (g := ptrAt bL) hj']; exact hO233⟩ hf hH (by simp only; omega) ⟨rfl, rfl, rfl, rfl, rfl, rfl, rfl, rfl, rfl, trivial⟩
      ·have hOK' : Own pLoc 1 yK pK j cK (x.samples[kS].stack.map (ptrAt bL)) := by rw [List.take_of_length_le (by omega)] at hOK; exact hOK
       refine cj_exit (ej_then_exit (ej_then_exit (ej_blk_hit (ej_then (hK55 _ _ _ (CJ.s [(3, _), (17, _), (18, _), (201, _), (202, _), (203, _)] ⟨rfl, rfl, rfl, rfl, rfl, rfl, trivial⟩ (cj_seqF fun K61 hK61 => cj_reg (jM rfl rfl (j_valw rfl (fun a w ha hH hf => r_ldA (vs := [_, _, _, _]) 3 rfl rfl isAgg50 sizeOf50 rfl rfl rfl ha hH) ?_)))))))))
       refine j_callE (R := fun w1 _ w' => (∃ lm nm, Blk w' b212 tSam (cSam (.slice pK j cK) (.slice p210 (0 + x.samples[kS].values.length) c210) lm nm) ∧ LabM tStr w' lm (labT x.samples[kS]) ∧ LabM tI64 w' nm (labN x.samples[kS])) ∧ Fr b212 [tSam, 1000000] w1 w') call54 rfl rfl (fun w' hH hf => implLabeled_c w w' b212 _ _ _ x.samples[kS] hR' (hKd _ _ hf) (Nat.le_trans hs5 (hH.fresh' (i := 1) rfl rfl)) m4 (hH.get (i := 1) rfl rfl)) fun w0 v w2 hH hf hRet => ?_
       obtain ⟨⟨lm, nm, hbx, hlm2, hnm2⟩, hfr⟩ := hRet
       have hb212 : w5.heap.size ≤ b212 := hH.fresh' (i := 1) rfl rfl
       have hno : TagNoB [tSam, 1000000] b212 [yK, ⟨b212, tSam, cSam (.slice pK j cK) (.slice p210 (0 + x.samples[kS].values.length) c210) (.map none) (.map none), true, true, none⟩, y210, ⟨b17, 50, [.slice p1 x.samples[kS].stack.length c1, .slice p2 x.samples[kS].values.length c2, .slice p3 x.samples[kS].texts.length c3, .slice p4 x.samples[kS].nums.length c4], true, true, none⟩, yS, ro yL, ro yF, ro yM, ro yT, eProf b41 x (.slice pT kT cT) (.slice pS kS cS) (.slice pM kM cM) (.slice pL kL cL) (.slice pF kF cF) (.slice p26 (0 + x.comments.length) c26) b39, ⟨b39, tVT, cVT x.per, false, true, none⟩, ro y26, ⟨b1, 31, [.slice pt x.types.length ct, .string x.deflt, .slice (some ⟨qb, qo, none⟩) x.samples.length csm, .slice pm x.mappings.length cm, .slice pl x.locs.length cl, .slice pf x.funcs.length cf, .slice pc x.comments.length cc, .string x.drop, .string x.keep, .int .i64 x.time, .int .i64 x.dur, .int .i64 x.period, .string x.per.ty, .string x.per.unit], false, true, none⟩] := .own (.self (.of (.own (.row (.own (.ownR (.ownR (.ownR (.ownR (.row (.row (.ownR (.row .nil rfl) hO26 rfl) rfl) rfl) hOT rfl) hOM rfl) hOF rfl) hOL rfl) hOS rfl) rfl) hO210 rfl))) hOK rfl
       have hH2 := hH.putK (w' := w2) (i := 1) (y' := ⟨b212, tSam, cSam (.slice pK j cK) (.slice p210 (0 + x.samples[kS].values.length) c210) lm nm, true, true, none⟩) rfl rfl rfl (fun _ _ => .inl hb212) (fun z hz he hne o ho => hfr.keep _ _ ho (.inr (by rw [(hH.has hz).tag he ho]; exact hno z hz he hne))) ⟨fun _ => hbx, fun _ h => by cases h⟩
       have hf2 : Fm.ok ⟨w5, w.heap.size, [tProf, pSam]⟩ w2 := Fr.trans hf hfr (.inl hb212)
       have hK2 := hKd _ _ hf2
       have hKd := fun W => keepOf (W := W) hK2 (Nat.le_refl _)
       refine J.begin ⟨w2, w.heap.size, [tProf, pSam]⟩ [ro yK, ⟨b212, tSam, cSam (.slice pK j cK) (.slice p210 (0 + x.samples[kS].values.length) c210) lm nm, false, true, none⟩, ro y210, ⟨b17, 50, [.slice p1 x.samples[kS].stack.length c1, .slice p2 x.samples[kS].values.length c2, .slice p3 x.samples[kS].texts.length c3, .slice p4 x.samples[kS].nums.length c4], false, true, none⟩, yS, ro yL, ro yF, ro yM, ro yT, eProf b41 x (.slice pT kT cT) (.slice pS kS cS) (.slice pM kM cM) (.slice pL kL cL) (.slice pF kF cF) (.slice p26 (0 + x.comments.length) c26) b39, ⟨b39, tVT, cVT x.per, false, true, none⟩, ro y26, ⟨b1, 31, [.slice pt x.types.length ct, .string x.deflt, .slice (some ⟨qb, qo, none⟩) x.samples.length csm, .slice pm x.mappings.length cm, .slice pl x.locs.length cl, .slice pf x.funcs.length cf, .slice pc x.comments.length cc, .string x.drop, .string x.keep, .int .i64 x.time, .int .i64 x.dur, .int .i64 x.period, .string x.per.ty, .string x.per.unit], false, true, none⟩] ok_refl ((hH2.roN (n := 4)).again hs5 (TagOK.ro (.ro (.ro (.ro (.own (.ro (.ro (.ro (.ro (.row (.ro (.ro (.ro .nil rfl) rfl) rfl) rfl) rfl) rfl) rfl) rfl) hOS rfl) rfl) rfl) rfl) rfl)) ?_
       refine j_nil (ej_then (hK61 _ _ _ (CJ.s [(3, _), (18, _), (201, _), (202, _), (203, _)] ⟨rfl, rfl, rfl, rfl, rfl, trivial⟩ (cj_reg (jM rfl rfl (jM rfl rfl (jN rfl rfl (j_val rfl (fun _ _ h => r_fl (q := 2) (ft := 116) runUnderlying121 rfl sizeOf116 rfl h) (j_valw rfl (fun a w ha hH hf => r_ldH 9 rfl rfl isAgg116 rfl rfl ha hH) (jM rfl rfl ?_))))))))))
       refine j_bslice1 runUnderlying116 sizeOf134 zeroValue134 rfl rfl rfl rfl rfl fun b246 => ?_
       refine j_appO 4 rfl hOS runUnderlying116 el134 rfl rfl rfl rfl rfl (by omega) rfl fun y247 p247 c247 hO247 => ?_
       refine jN rfl rfl (j_val rfl (fun _ _ h => r_fl (q := 2) (ft := 116) runUnderlying121 rfl sizeOf116 rfl h) ?_)
       refine j_storeN (cs' := [_, _, _, _, _, _, _, _, _, _, _, _, _, _, _, _, _, _]) (H' := [_, _, _, _, _, _, _, _, _, _, _, _, _]) 9 rfl rfl rfl rfl sizeOf116 rfl rfl rfl rfl rfl rfl rfl ?_
       refine j_nil (ej_blk (ej_then (hK52 _ _ _ (CJ.s [(3, _), (201, _), (202, _), (203, _)] ⟨rfl, rfl, rfl, rfl, trivial⟩ (cj_reg (j_val rfl (fun _ _ h => r_inc (by omega) rfl rfl h) (jM rfl rfl (j_nil (ej_then ?_)))))))))
       exact fun w' hH hf0 => by
        have hf := ok_back hf2 (.inr fun _ h => h) hf0
        exact hKLS (kS + 1, y247, p247, c247, bS ++ [b212]) _ w' ⟨hkS, by rw [← ptrs_push]; exact hO247, hpS.push hkS hf.size (fun _ _ h => h.mono (fun _ _ h => ok_blk hf h rfl) (fun _ _ h => ok_blk hf h rfl) (fun _ _ h => ok_blk hf h rfl) (fun _ _ h => ok_blk hf h rfl) (fun _ _ _ h => ok_map hf h rfl)) ⟨_, _, lm, nm, hH.get (i := 1) rfl rfl, hOK'.osR (i := 0) hH rfl, by simpa using hO210.osR (i := 2) hH rfl, hlm2.mono (fun _ _ h => ok_blk hf0 h rfl) (fun _ _ _ h => ok_map hf0 h rfl), hnm2.mono (fun _ _ h => ok_blk hf0 h rfl) (fun _ _ _ h => ok_map hf0 h rfl)⟩ hb212 hs5 (hH.get (i := 1) rfl rfl).lt, ⟨hB39.1, hB39.2.1, Nat.lt_of_lt_of_le hB39.2.2 hf.size⟩, hPT.mono hf.size (fun _ _ h => ok_blk hf h rfl), hPM.mono hf.size (fun _ _ h => ok_blk hf h rfl), hPF.mono hf.size (fun _ _ h => ok_blk hf h rfl), hPL.mono hf.size (fun _ _ h => ⟨h.1.mono (fun _ _ h => ok_blk hf h rfl) (fun _ _ h => ok_blk hf h rfl), h.2.mono fun _ _ h => ok_blk hf h rfl⟩)⟩ (ok_back hf5 (.inr (by simp)) hf) (hH.2.2.2.2.2.2.2.2.2.2.2.2.back (Nat.le_trans hf5.size hf2.size) (.inr (by simp))) (by simp only; omega) ⟨rfl, rfl, rfl, rfl, trivial⟩
     ·have hPS := hpS.full (by omega)
      refine cj_exit (ej_then_exit (ej_then_exit (ej_blk_hit (ej_then (hK48 _ _ _ (CJ.s [(3, _)] ⟨rfl, trivial⟩ (cj_seqF fun K62 hK62 => cj_reg (jM rfl rfl (jA rfl rfl (j_nil (ej_then (hK62 _ _ _ (CJ.s [(2, _)] ⟨rfl, trivial⟩ (cj_ret (?_)))))))))))))))
      exact ej_ret1 results27 rfl fun w' hH hf => by
       have hfr := ok_back hf1 (.inl (Nat.le_refl _)) (ok_back hf2 (.inr fun _ h => h) (ok_back hf3 (.inr fun _ h => h) (ok_back hf4 (.inr fun _ h => h) (ok_back hf5 (.inr (by simp)) hf))))
       have hfr : Fr w.heap.size [] w w' := hfr
       have qT := hPT.mono hf.size (fun _ _ h => ok_blk hf h rfl)
       have qM := hPM.mono hf.size (fun _ _ h => ok_blk hf h rfl)
       have qF := hPF.mono hf.size (fun _ _ h => ok_blk hf h rfl)
       have qL := hPL.mono hf.size (fun _ _ h => ⟨h.1.mono (fun _ _ h => ok_blk hf h rfl) (fun _ _ h => ok_blk hf h rfl), h.2.mono fun _ _ h => ok_blk hf h rfl⟩)
       have qS := hPS.mono hf.size (fun _ _ h => h.mono (fun _ _ h => ok_blk hf h rfl) (fun _ _ h => ok_blk hf h rfl) (fun _ _ h => ok_blk hf h rfl) (fun _ _ h => ok_blk hf h rfl) (fun _ _ _ h => ok_map hf h rfl))
       refine ⟨⟨⟨b41, b39, bT, bM, bF, bL, bS⟩, rfl, ?_⟩, hfr.mono (.inl (Nat.le_refl _))⟩
       exact { prof := ⟨_, _, _, _, _, _, hH.get (i := 5) rfl rfl, hOT.osR (i := 4) hH rfl, hOS.os (i := 0) hH rfl, hOM.osR (i := 3) hH rfl, hOL.osR (i := 1) hH rfl, hOF.osR (i := 2) hH rfl, by simpa using hO26.osR (i := 7) hH rfl⟩, per := hH.get (i := 6) rfl rfl, types := qT.each, maps := qM.each, funs := qF.each, locs := qL.each.mono fun _ _ h => h.1, rows := (qL.each.mono (ψ := fun b _ => RowGe w.heap.size w' b) fun _ _ h => h.2).all, sams := qS.each, ntypes := List.nodup_cons.2 ⟨fun h => by have h2 : b39 + 1 ≤ b39 := hPT.ge _ h; omega, qT.nodup⟩, nmaps := qM.nodup, nfuns := qF.nodup, nlocs := qL.nodup, nsams := qS.nodup, fresh := ⟨hB39.2.1, hB39.1, fun b h => by have := hPT.ge _ h; have := hB39.1; omega, qM.ge, qF.ge, qL.ge, qS.ge⟩ }
end Go.Proofs.YtifnhinopjgfaaaGreat
