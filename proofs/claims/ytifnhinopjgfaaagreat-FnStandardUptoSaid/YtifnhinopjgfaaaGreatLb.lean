/-
  Keys of labels: looked for by halves, and put in behind all others. Conditions: the keys ascend; a new key stands behind all others.
-/
import Derived.Test.YtifnhinopjgfaaaGreatDt
import Derived.Test.YtifnhinopjgfaaaGreatSo
namespace Go.Fw
open Go
/-- known memory in another order -/
theorem Hp.perm {f : Fm} {w : World} {H H' : Heap} (p : H.Perm H') : Hp f w H → Hp f w H' := by
 induction p with
 | nil => exact id
 | cons x p ih => exact fun h => ⟨h.1, h.2.1, fun he y hy => h.2.2.1 he y (p.mem_iff.2 hy), ih h.2.2.2⟩
 | swap x y l => exact Hp.swap
 | trans _ _ h1 h2 => exact fun h => h2 (h1 h)
section
variable {P : Program} {n : Nat} {e : Env} {d ty : Nat} {pos : String} {af : Array Edge}
/-- what is left of a slice, none or some -/
theorem r_slcutP {t : Nat} {x y : Operand} {p : Option Addr} {l c elem sz : Nat} {kd : IntKind} {i : Nat} (hu : ∀ w, (underlying t).run P w = .ok (.slice elem) w) (hsz : ∀ w, (sizeOf elem).run P w = .ok sz w)
  (hx : ev e x = some (.slice p l c)) (hy : ev e y = some (.int kd i)) (hi : i ≤ l) {a : Act} {w : World} (ha : Sat n e a) :
  (execOp a.eval ⟨some d, .slice t x (some y) none none, ty, pos, af, none⟩).run P w = .ok (.value (.slice (if c = i then p else p.map (·.add (i * sz))) (l - i) (c - i))) w := by
 simp only [execOp, ha.ev hx, Option.map_none, Option.map_some, ha.ev hy]
 simp [Instr.sliceAt, Instr.slice, Instr.sliceBounds, Instr.sliceBound, asIntOf, hu, hsz, hi]
end
theorem Hp.rowO {w : World} {T sz : Nat} {y : Ent} {p : Option Addr} {l c : Nat} {xs : List Value} {L : List Nat} (hO : Own T sz y p l c xs) (hb : y.on = true → Blk w y.b T y.cs) (hL : y.on = true → y.b ∈ L) : Hp ⟨w, 0, [T]⟩ w (y :: restH w L) :=
 ⟨⟨fun ho => by rw [hO.hT]; exact hb ho, fun o h => by rw [hO.ho] at h; cases h⟩, fun _ _ => .inr ⟨Nat.zero_le _, by rw [hO.tag]; simp⟩, fun he => rest_ne (hL (by
  simp only [Ent.ex, hO.ho, Option.isSome_none, Bool.or_false] at he; exact he)), Hp.rest _⟩
def offE (y : Ent) : List Nat := if y.on = true then [y.b] else []
/-- an entry turned into another one, of the same block, of a block behind it or of a new one -/
theorem Hp.chg {f : Fm} {w w' : World} {x y y' : Ent} {H : Heap} (h : Hp f w (x :: y :: H)) (k : KeepX (offE y ++ [x.b]) w w') (hf : f.ok w) (hb : y'.on = true → Blk w' y'.b y'.T y'.cs) (ho : y'.ob = none) (hyo : y.ob = none) (hn : y'.b ∈ offE y ++ [x.b] ∨ w.heap.size ≤ y'.b) (ht : y'.T = y.T) (hwr : y.wr = true) (hxo : x.on = true) (hxt : x.T = y.T) (hxw : x.wr = true) (hxb : x.ob = none) : Hp f w' (y' :: H) := by
 have hr := h.2.2.2.2.2.2
 have hlt : ∀ x ∈ H, x.ex = true → x.b < w.heap.size := fun x hx he => (hr.has hx).lt he
 have hxe : x.ex = true := by simp [Ent.ex, hxo]
 have hcase : (y.on = true ∧ y'.b = y.b) ∨ y'.b = x.b ∨ w.heap.size ≤ y'.b := by
  rcases hn with h1 | h1
  ·unfold offE at h1
   split at h1
   ·next hy =>
    simp at h1
    exact h1.elim (fun h1 => .inl ⟨hy, h1⟩) fun h1 => .inr (.inl h1)
   ·simp at h1; exact .inr (.inl h1)
  ·exact .inr (.inr h1)
 have etag : y'.tag = y.T := by simp [Ent.tag, ho, ht]
 refine ⟨⟨hb, fun o h => by rw [ho] at h; cases h⟩, fun he hw => ?_, fun he z hz hze => ?_, ?_⟩
 ·rw [etag]
  rcases hcase with ⟨h1, h2⟩ | h1 | h1
  ·have := h.2.2.2.2.1 (by simp [Ent.ex, h1]) hwr
   rw [h2]
   have e : y.tag = y.T := by simp [Ent.tag, hyo]
   rw [e] at this; exact this
  ·have := h.2.1 hxe hxw
   rw [h1]
   have e : x.tag = y.T := by simp [Ent.tag, hxb, hxt]
   rw [e] at this; exact this
  ·exact .inl (Nat.le_trans hf.size h1)
 ·rcases hcase with ⟨h1, h2⟩ | h1 | h1
  ·rw [h2]; exact h.2.2.2.2.2.1 (by simp [Ent.ex, h1]) z hz hze
  ·rw [h1]; exact h.2.2.1 hxe z (by simp [hz]) hze
  ·have := hlt z hz hze; omega
 ·refine hr.mono fun z hz he o hob => k.keep _ _ hob ?_
  have h1 := h.2.2.1 hxe z (by simp [hz]) he
  unfold offE
  split
  ·next h2 =>
   have := h.2.2.2.2.2.1 (by simp [Ent.ex, h2]) z hz he
   simp; exact ⟨this, h1⟩
  ·simp; exact h1
theorem restH_in {w : World} {l : List Nat} {b : Nat} (hb : b < w.heap.size) (hn : b ∉ l) : (⟨b, 0, [], false, false, w.heap[b]?⟩ : Ent) ∈ restH w l := by
 refine List.mem_map.2 ⟨b, ?_, rfl⟩
 simp [hb, hn]
theorem KeepX.later {l : List Nat} {w0 w w' : World} (h : KeepX l w w') (k : Keep w0 w) (hs : w0.heap.size ≤ w.heap.size) (e1 : w.os = w0.os) (e2 : w.tape = w0.tape) (e3 : w.output = w0.output) : KeepX l w0 w' := ⟨h.os.trans e1, h.tape.trans e2, h.output.trans e3, Nat.le_trans hs h.size, fun b o hb hn => h.keep b o (k b o hb) hn⟩
end Go.Fw
namespace Go.Proofs.YtifnhinopjgfaaaGreat
open Go Go.Fw Go.Proofs Go.Proofs.Tryz
abbrev tTx : Nat := 96
abbrev tNu : Nat := 99
abbrev tSm : Nat := 50
def ordI (a b : ByteArray) : Int := if ltB a b = true then -1 else if a = b then 0 else 1
theorem order_c (w : World) (a b : ByteArray) : Calls Tryz.prog 48 #[.string a, .string b] w (Ret fun v w' => v = .int .i64 (ordI a b) ∧ Fr 0 [] w w') := by
 refine startJ (args := [_, _]) [(0, _), (1, _)] 0 [] [] Tryz.func48 rfl Tryz.ntmps48 rfl rfl .nil ?_
 refine cj_seqF fun K1 hK1 => cj_reg (jA rfl rfl (j_nil (ej_then (hK1 _ _ _ (CJ.s [(0, _), (1, _)] ⟨rfl, rfl, trivial⟩ (cj_seqF fun K2 hK2 => cj_block (cj_seqF fun K3 hK3 => cj_reg (jM rfl rfl (jM rfl rfl (j_val rfl (fun _ _ h => r_slss rfl rfl h) (jA rfl rfl ?_)))))))))))
 refine j_nil (ej_then (hK3 _ _ _ (CJ.s [(0, _), (1, _), (5, _)] ⟨rfl, rfl, rfl, trivial⟩ ?_)))
 refine cj_if rfl (fun h5 => ?_) (fun h5 => ?_)
 ·have hz : ordI a b = -1 := by unfold ordI; rw [if_pos h5]
  refine cj_seqF fun K4 hK4 => cj_reg (jA rfl rfl (j_nil (ej_then (hK4 _ _ _ (CJ.s [(4, _)] ⟨rfl, trivial⟩ (cj_ret (ej_blk_ret (ej_then_ret (?_)))))))))
  exact ej_ret1 Tryz.results48 rfl fun w' hH hf => ⟨by rw [hz], hf⟩
 ·refine cj_seqF fun K5 hK5 => cj_reg (jM rfl rfl (jM rfl rfl (j_val rfl (fun _ _ h => r_sgtr rfl rfl h) (jA rfl rfl (j_nil (ej_then (hK5 _ _ _ (CJ.s [(9, _)] ⟨rfl, trivial⟩ ?_))))))))
  refine cj_if rfl (fun h9 => ?_) (fun h9 => ?_)
  ·have hz : ordI a b = 1 := by
    unfold ordI
    simp at h9
    rw [if_neg (by rw [h9.1]; simp), if_neg h9.2]
   refine cj_seqF fun K6 hK6 => cj_reg (jA rfl rfl (j_nil (ej_then (hK6 _ _ _ (CJ.s [(4, _)] ⟨rfl, trivial⟩ (cj_ret (ej_blk_ret (ej_then_ret (?_)))))))))
   exact ej_ret1 Tryz.results48 rfl fun w' hH hf => ⟨by rw [hz], hf⟩
  ·have hz : ordI a b = 0 := by
    unfold ordI
    simp at h5 h9
    rw [if_neg (by rw [h5]; simp), if_pos (h9 h5)]
   refine cj_skip (ej_blk (ej_then (hK2 _ _ _ (CJ.s [] trivial (cj_seqF fun K7 hK7 => cj_reg (jA rfl rfl (j_nil (ej_then (hK7 _ _ _ (CJ.s [(4, _)] ⟨rfl, trivial⟩ (cj_ret (?_))))))))))))
   exact ej_ret1 Tryz.results48 rfl fun w' hH hf => ⟨by rw [hz], hf⟩
/-- a key and its row -/
def cKey (q : ByteArray × Value) : List Value := [.string q.1, q.2]
theorem half_lo {a b : Nat} (h : a < b) : a ≤ (a + b) / 2 ∧ (a + b) / 2 < b := by omega
theorem half_eq {a b : Nat} (ha : a ≤ 1000000000) (hb : b ≤ 1000000000) : IntKind.i64.wrap ((IntKind.u64.wrap (IntKind.i64.wrap ((a : Int) + (b : Int)))).fdiv (2 ^ (min 1 IntKind.u64.bits))) = (((a + b) / 2 : Nat) : Int) := by
 have h0 : IntKind.i64.wrap ((a : Int) + (b : Int)) = (a : Int) + (b : Int) := wrap64_small (by omega) (by omega)
 rw [h0]
 have h1 : IntKind.u64.wrap ((a : Int) + (b : Int)) = ((a + b : Nat) : Int) := by
  rw [← Int.natCast_add]; exact wrapU (by omega)
 rw [h1, show min 1 IntKind.u64.bits = 1 from rfl, Int.fdiv_eq_ediv_of_nonneg _ (by omega)]
 rw [wrap64_small (by simp; omega) (by simp; omega)]
 simp
theorem lab1_c (w : World) (a b : ByteArray) (lv : Value) (hlv : scal lv = true) : Calls Tryz.prog 47 #[.agg #[.string a, lv], .string b] w (Ret fun v w' => v = .int .i64 (ordI a b) ∧ Fr 0 [] w w') := by
 refine startJ (args := [_, _]) [(0, .agg [.string a, lv].toArray), (1, _)] 0 [] [] Tryz.func47 rfl Tryz.ntmps47 rfl rfl .nil ?_
 refine cj_seqF fun K1 hK1 => cj_reg ?_
 refine j_boxA (vs := [_, _]) rfl rfl fun b2 => ?_
 refine jA rfl rfl (j_nil (ej_then (hK1 _ _ _ (CJ.s [(1, _), (2, _)] ⟨rfl, rfl, trivial⟩ (cj_seqF fun K2 hK2 => cj_reg (j_val rfl (fun _ _ h => r_fl (q := 0) (ft := 9) Tryz.runUnderlying96 rfl Tryz.sizeOf9 rfl h) (j_valw rfl (fun a w ha hH hf => r_ldH 0 rfl rfl Tryz.isAgg9 rfl rfl ha hH) (jM rfl rfl ?_))))))))
 refine j_callQ (φ := fun v => v = .int .i64 (ordI a b)) Tryz.call48 rfl rfl (fun w1 hH hf => order_c w1 a b) fun v hv => ?_
 subst hv
 refine jA rfl rfl (j_nil (ej_then (hK2 _ _ _ (CJ.s [(4, _)] ⟨rfl, trivial⟩ (cj_ret (?_))))))
 exact ej_ret1 Tryz.results47 rfl fun w' hH hf => ⟨rfl, hf⟩
set_option maxHeartbeats 1000000 in
theorem bs1_c (w : World) (lv : Value) (qs : List (ByteArray × Value)) (key : ByteArray) (m : Nat) (fnd : Bool) (hv : OS tTx 2 w lv (qs.flatMap cKey)) (hsc : ∀ q ∈ qs, ∃ p l c, q.2 = .slice p l c) (hl : qs.length ≤ 1000000000) (hm : m ≤ qs.length) (h1 : ∀ (i : Nat) q, qs[i]? = some q → i < m → ltB q.1 key = true) (h2 : ∀ (i : Nat) q, qs[i]? = some q → m ≤ i → ltB q.1 key = false)
  (hfn : if fnd = true then ∃ q, qs[m]? = some q ∧ q.1 = key else m = qs.length) :
  Calls Tryz.prog 46 #[lv, .string key, .func (.func 47) #[] #[]] w (Ret fun v w' => v = .tuple #[.int .i64 (m : Nat), .bool fnd] ∧ Fr 0 [] w w') := by
 obtain ⟨p, l, c, rfl, hlen, -, hx⟩ := hv.openF
 have hfl : (qs.flatMap cKey).length = qs.length * 2 := flatMap_len (sz := 2) (fun _ => rfl) _
 obtain rfl : l = qs.length := by omega
 have hcell : ∀ (i : Nat) q, qs[i]? = some q → ∃ b p0 l0 c0, p = some ⟨b, 0, none⟩ ∧ q.2 = .slice p0 l0 c0 ∧ ∀ w', Fr 0 [] w w' → ∀ (j : Nat) (u : Value), (cKey (q.1, .slice p0 l0 c0))[j]? = some u → w'.cell? ⟨b, 0 + i * 2 + j, none⟩ = some u := fun i q hq => by
  have hi := (List.getElem?_eq_some_iff.1 hq).1
  obtain ⟨b, rfl, hcs⟩ := hx (by omega)
  obtain ⟨p0, l0, c0, hq2⟩ := hsc q (List.mem_of_getElem? hq)
  refine ⟨b, p0, l0, c0, rfl, hq2, fun w' hf j u hu => ?_⟩
  rw [Nat.zero_add]
  exact hcs ⟨w, 0, []⟩ rfl rfl w' hf _ u (flatMap_get (c := cKey) (sz := 2) (fun _ => rfl) hq j u (by rw [show cKey q = cKey (q.1, q.2) from rfl, hq2]; exact hu))
 refine startJ (args := [_, _, _]) [(0, _), (1, _), (2, _)] 0 [] [] Tryz.func46 rfl Tryz.ntmps46 rfl rfl .nil ?_
 refine cj_seqF fun K1 hK1 => cj_reg (jA rfl rfl (jA rfl rfl (j_nil (ej_then (hK1 _ _ _ (CJ.s [(0, _), (1, _), (2, _)] ⟨rfl, rfl, rfl, trivial⟩ (cj_seqF fun K2 hK2 => cj_reg (jM rfl rfl (j_val rfl (fun _ _ h => r_len Tryz.runUnderlying47 rfl h) (jA rfl rfl (j_nil (ej_then (hK2 _ _ _ ?_)))))))))))))
 refine CJ.s [(0, _), (1, _), (2, _), (8, _)] ⟨rfl, rfl, rfl, rfl, trivial⟩ (cj_seqF fun K3 hK3 => cj_reg (jM rfl rfl (jA rfl rfl (jA rfl rfl (j_nil (ej_then (hK3 _ _ _ (CJ.s [(0, _), (1, _), (2, _), (8, _), (9, _), (10, _)] ⟨rfl, rfl, rfl, rfl, rfl, rfl, trivial⟩ (cj_seqF fun K4 hK4 => cj_block ?_)))))))))
 -- LOOP 0 live [0, 1, 2, 8, 9, 10]
 refine cj_loop (σ := Nat × Nat) (fun s => [(0, .slice p qs.length c), (1, .string key), (2, .func (.func 47) #[] #[]), (8, .int .i64 (qs.length : Nat)), (9, .int .i64 (s.1 : Nat)), (10, .int .i64 (s.2 : Nat))]) (fun _ => []) (fun s _ => s.1 ≤ m ∧ m ≤ s.2 ∧ s.2 ≤ qs.length) (fun s => s.2 - s.1) (0, qs.length) ⟨rfl, rfl, rfl, rfl, rfl, rfl, trivial⟩ (fun w' hH hf => ⟨.nil, Nat.zero_le _, hm, Nat.le_refl _⟩) ?_
 rintro ⟨i, j⟩ w1 ⟨hi, hj, hjl⟩ hf1 hH1 KL hKL
 have hi : i ≤ m := hi
 have hj : m ≤ j := hj
 have hjl : j ≤ qs.length := hjl
 refine C.begin _ [] hf1 .nil ?_
 refine CJ.s [(0, .slice p qs.length c), (1, .string key), (2, .func (.func 47) #[] #[]), (8, .int .i64 (qs.length : Nat)), (9, .int .i64 (i : Nat)), (10, .int .i64 (j : Nat))] ⟨rfl, rfl, rfl, rfl, rfl, rfl, trivial⟩ (cj_seqF fun K5 hK5 => cj_seqF fun K6 hK6 => cj_reg (jM rfl rfl (jM rfl rfl (j_val rfl (fun _ _ h => r_lss rfl rfl h) (j_nil (ej_then (hK6 _ _ _ (CJ.s [(0, _), (1, _), (2, _), (8, _), (9, _), (10, _), (17, _)] ⟨rfl, rfl, rfl, rfl, rfl, rfl, rfl, trivial⟩ ?_))))))))
 refine cj_dec rfl (fun h17 => ?_) (fun h17 => ?_)
 ·have hij : i < j := by omega
  have hh := half_lo hij
  obtain ⟨g, hg⟩ : ∃ g, g = (i + j) / 2 := ⟨_, rfl⟩
  rw [← hg] at hh
  have hgl : g < qs.length := by omega
  obtain ⟨b, p0, l0, c0, rfl, hq2, hcl⟩ := hcell g _ (List.getElem?_eq_getElem hgl)
  refine cj_skip (ej_then (hK5 _ _ _ (CJ.s [(0, _), (1, _), (2, _), (8, _), (9, _), (10, _)] ⟨rfl, rfl, rfl, rfl, rfl, rfl, trivial⟩ (cj_block (cj_seqF fun K7 hK7 => cj_reg (jM rfl rfl (jM rfl rfl (j_val rfl (fun _ _ h => r_add rfl rfl h) (j_val rfl (fun _ _ h => r_conv Tryz.runUnderlying3 Tryz.runUnderlying153 rfl h) (j_val rfl (fun _ _ h => r_shr (q := 1) rfl rfl h) (j_val rfl (fun _ _ h => r_conv Tryz.runUnderlying153 Tryz.runUnderlying3 rfl h) ?_)))))))))))
  refine j_eqv (u := .int .i64 (g : Nat)) (congrArg (Value.int .i64) (by rw [hg]; exact half_eq (by omega) (by omega))) ?_
  refine jA rfl rfl (j_nil (ej_then (hK7 _ _ _ (CJ.s [(0, _), (1, _), (2, _), (8, _), (9, _), (10, _), (11, _)] ⟨rfl, rfl, rfl, rfl, rfl, rfl, rfl, trivial⟩ (cj_seqF fun K8 hK8 => cj_reg (jM rfl rfl (jM rfl rfl (jM rfl rfl (j_val rfl (fun _ _ h => r_idx Tryz.runUnderlying47 Tryz.sizeOf96 rfl rfl (by omega) h) (j_valw rfl (fun a w ha hH hf => r_loadA Tryz.isAgg96 Tryz.sizeOf96 rfl rfl (hcl w (hf)) ha) (jM rfl rfl ?_)))))))))))
  refine j_callVQ (g := 47) (φ := fun u => u = .int .i64 (ordI qs[g].1 key)) Tryz.call47 rfl rfl rfl (fun v' hH hf => lab1_c v' _ _ _ rfl) fun v hv => ?_
  subst hv
  refine j_val rfl (fun _ _ h => r_lss rfl rfl h) (j_nil (ej_then (hK8 _ _ _ (CJ.s [(0, _), (1, _), (2, _), (8, _), (9, _), (10, _), (11, _), (31, _)] ⟨rfl, rfl, rfl, rfl, rfl, rfl, rfl, rfl, trivial⟩ ?_))))
  refine cj_dec rfl (fun h31 => ?_) (fun h31 => ?_)
  ·have hlt : g < m := by
    rcases Nat.lt_or_ge g m with h | h
    ·exact h
    ·have := h2 g _ (List.getElem?_eq_getElem hgl) h
     unfold ordI at h31
     rw [this] at h31
     simp at h31
     split at h31 <;> omega
   refine cj_reg (jM rfl rfl (j_val rfl (fun _ _ h => r_inc (by omega) rfl rfl h) (jA rfl rfl (j_nil (ej_blk (ej_then ?_))))))
   first
   | exact fun w' hH hf => hKL (g + 1, j) _ w' ⟨hlt, hj, hjl⟩ hf .nil (by simp only; omega) ⟨rfl, rfl, rfl, rfl, rfl, rfl, trivial⟩
   | exact fun w' hH hf => hKL (i, g) _ w' ⟨hi, hge, by simp only; omega⟩ hf .nil (by simp only; omega) ⟨rfl, rfl, rfl, rfl, rfl, rfl, trivial⟩
  ·have hge : m ≤ g := by
    rcases Nat.lt_or_ge g m with h | h
    ·have := h1 g _ (List.getElem?_eq_getElem hgl) h
     unfold ordI at h31
     rw [if_pos this] at h31
     omega
    ·exact h
   refine cj_reg (jM rfl rfl (jA rfl rfl (j_nil (ej_blk (ej_then ?_)))))
   first
   | exact fun w' hH hf => hKL (g + 1, j) _ w' ⟨hlt, hj, hjl⟩ hf .nil (by simp only; omega) ⟨rfl, rfl, rfl, rfl, rfl, rfl, trivial⟩
   | exact fun w' hH hf => hKL (i, g) _ w' ⟨hi, hge, by simp only; omega⟩ hf .nil (by simp only; omega) ⟨rfl, rfl, rfl, rfl, rfl, rfl, trivial⟩
 ·obtain rfl : i = m := by omega
  refine cj_exit (ej_then_exit (ej_then_exit (ej_blk_hit (ej_then (hK4 _ _ _ (CJ.s [(0, _), (1, _), (2, _), (8, _), (9, _)] ⟨rfl, rfl, rfl, rfl, rfl, trivial⟩ (cj_seqF fun K9 hK9 => cj_reg (jM rfl rfl (jM rfl rfl (jM rfl rfl (j_val rfl (fun _ _ h => r_lss rfl rfl h) ?_)))))))))))
  refine j_eqv (u := .bool fnd) (congrArg Value.bool (by
   cases fnd with
   | true =>
    simp only [if_true] at hfn
    obtain ⟨q, hq, -⟩ := hfn
    have := (List.getElem?_eq_some_iff.1 hq).1
    exact decide_eq_true (by omega)
   | false =>
    simp at hfn
    exact decide_eq_false (by omega))) ?_
  refine jM rfl rfl ?_
  refine j_split (t := 39) rfl (fun hg39 => ?_) (fun hg39 => ?_)
  ·subst hg39
   simp only [if_true] at hfn
   obtain ⟨q0, hq0, hq0k⟩ := hfn
   obtain ⟨b, p0, l0, c0, rfl, hq2, hcl⟩ := hcell _ _ hq0
   have hiq := (List.getElem?_eq_some_iff.1 hq0).1
   refine j_gt rfl rfl (jM rfl rfl (j_gt rfl rfl (jM rfl rfl (j_gt rfl rfl (jM rfl rfl (j_gt rfl rfl (j_val rfl (fun _ _ h => r_idx Tryz.runUnderlying47 Tryz.sizeOf96 rfl rfl (by omega) h) (j_gt rfl rfl (j_valw rfl (fun a w ha hH hf => r_loadA Tryz.isAgg96 Tryz.sizeOf96 rfl rfl (hcl w (hf)) ha) (j_gt rfl rfl (jM rfl rfl (j_gt rfl rfl ?_))))))))))))
   refine j_callVQ (g := 47) (φ := fun u => u = .int .i64 0) Tryz.call47 rfl rfl rfl (fun v' hH hf => by
     have := lab1_c v' q0.1 key (.slice p0 l0 c0) rfl
     rw [show ordI q0.1 key = 0 by unfold ordI; rw [hq0k, ltB_irrefl]; simp] at this
     exact this) fun v hv => ?_
   subst hv
   refine j_gt rfl rfl (j_val rfl (fun _ _ h => r_eql rfl rfl h) (j_val rfl (fun _ _ h => r_pick_t rfl rfl h) (jA rfl rfl (jA rfl rfl (j_nil (ej_then (hK9 _ _ _ (CJ.s [(6, _), (7, _)] ⟨rfl, rfl, trivial⟩ (cj_ret (?_))))))))))
   first
   | exact ej_ret2 Tryz.results46 rfl rfl fun w' hH hf => ⟨rfl, hf⟩
  ·subst hg39
   refine j_gf rfl rfl rfl rfl (j_gf rfl rfl rfl rfl (j_gf rfl rfl rfl rfl (j_gf rfl rfl rfl rfl (j_gf rfl rfl rfl rfl (j_gf rfl rfl rfl rfl (j_gf rfl rfl rfl rfl (j_gf rfl rfl rfl rfl (j_val rfl (fun _ _ h => r_pick_f rfl rfl h) (jA rfl rfl (jA rfl rfl (j_nil (ej_then (hK9 _ _ _ (CJ.s [(6, _), (7, _)] ⟨rfl, rfl, trivial⟩ ?_))))))))))))))
   refine cj_ret (?_)
   first
   | exact ej_ret2 Tryz.results46 rfl rfl fun w' hH hf => ⟨rfl, hf⟩
theorem ins1_c (w : World) (y : Ent) (p : Option Addr) (l c : Nat) (xs : List Value) (key : ByteArray) (vb : Nat) (hO : Own tTx 2 y p l c xs) (hb : y.on = true → Blk w y.b tTx y.cs) (hv : Blk w vb tTx [.string key, .slice none 0 0]) (hne : y.on = true → y.b ≠ vb) (hl : l ≤ 1000000000) :
  Calls Tryz.prog 49 #[.slice p l c, .int .i64 (l : Nat), .slice (some ⟨vb, 0, none⟩) 1 1] w (Ret fun v w' => (∃ y' p' c', v = .slice p' (l + 1) c' ∧ Own tTx 2 y' p' (l + 1) c' (xs ++ [.string key, .slice none 0 0]) ∧ (y'.on = true → Blk w' y'.b tTx y'.cs) ∧ (y'.b ∈ offE y ++ [vb] ∨ w.heap.size ≤ y'.b)) ∧ KeepX (offE y ++ [vb]) w w' ∧ Fr 0 [tTx] w w') := by
 have hlc := hO.sl.2.1
 have hyv : y.on = true → y.b ∈ offE y ++ [vb] := fun ho => by simp [offE, ho]
 have hH0 : Hp ⟨w, 0, [tTx]⟩ w (⟨vb, tTx, [.string key, .slice none 0 0], true, true, none⟩ :: y :: restH w (offE y ++ [vb])) := (Hp.rowO hO hb hyv).add hv (fun _ => .inr ⟨Nat.zero_le _, by simp⟩) fun z hz hze => by
  rcases List.mem_cons.1 hz with rfl | hz
  ·exact hne (by simp only [Ent.ex, hO.ho, Option.isSome_none, Bool.or_false] at hze; exact hze)
  ·exact rest_ne (by simp) z hz hze
 refine startJ (args := [_, _, _]) [(0, _), (1, _), (2, _)] 0 [tTx] _ Tryz.func49 rfl Tryz.ntmps49 rfl rfl hH0 ?_
 refine cj_seqF fun K1 hK1 => cj_reg (jA rfl rfl (j_nil (ej_then (hK1 _ _ _ (CJ.s [(0, _), (1, _), (2, _)] ⟨rfl, rfl, rfl, trivial⟩ (cj_seqF fun K2 hK2 => cj_reg (jM rfl rfl (jM rfl rfl (j_val rfl (fun _ _ h => r_slcutP (i := l) (l := l) Tryz.runUnderlying47 Tryz.sizeOf96 rfl rfl (Nat.le_refl _) h) (j_nil (ej_then (hK2 _ _ _ (CJ.s [(0, _), (1, _), (2, _)] ⟨rfl, rfl, rfl, trivial⟩ ?_)))))))))))))
 refine cj_seqF fun K3 hK3 => cj_reg (jM rfl rfl (j_val rfl (fun _ _ h => r_len Tryz.runUnderlying47 rfl h) (jA rfl rfl (j_nil (ej_then (hK3 _ _ _ (CJ.s [(0, _), (1, _), (2, _), (7, _)] ⟨rfl, rfl, rfl, rfl, trivial⟩ (cj_seqF fun K4 hK4 => cj_seqF fun K5 hK5 => cj_reg (jM rfl rfl (j_val rfl (fun _ _ h => r_eql rfl rfl h) ?_))))))))))
 refine j_eqv (u := .bool false) rfl ?_
 refine j_nil (ej_then (hK5 _ _ _ (CJ.s [(0, _), (1, _), (2, _), (7, _), (16, _)] ⟨rfl, rfl, rfl, rfl, rfl, trivial⟩ ?_)))
 refine cj_if_f rfl ?_
 refine cj_skip (ej_then (hK4 _ _ _ (CJ.s [(0, _), (1, _), (2, _), (7, _)] ⟨rfl, rfl, rfl, rfl, trivial⟩ (cj_seqF fun K6 hK6 => cj_reg (jM rfl rfl (j_val rfl (fun _ _ h => r_len Tryz.runUnderlying47 rfl h) (jA rfl rfl (j_nil (ej_then (hK6 _ _ _ (CJ.s [(0, _), (1, _), (2, _), (7, _), (8, _)] ⟨rfl, rfl, rfl, rfl, rfl, trivial⟩ (cj_seqF fun K7 hK7 => cj_seqF fun K8 hK8 => cj_reg (jM rfl rfl ?_)))))))))))))
 refine jM rfl rfl (j_val rfl (fun _ _ h => r_eql rfl rfl h) ?_)
 refine j_eqv (u := .bool true) (congrArg Value.bool (decide_eq_true rfl)) ?_
 refine j_nil (ej_then (hK8 _ _ _ (CJ.s [(0, _), (1, _), (2, _), (7, _), (8, _), (22, _)] ⟨rfl, rfl, rfl, rfl, rfl, rfl, trivial⟩ ?_)))
 refine cj_if_t rfl ?_
 refine cj_seqF fun K9 hK9 => cj_reg (jM rfl rfl (jM rfl rfl ?_))
 refine j_appO (H := y :: restH w (offE y ++ [vb])) 0 rfl hO Tryz.runUnderlying47 el96 rfl rfl rfl rfl rfl (by omega) rfl fun y' p' c' hO' => ?_
 refine jA rfl rfl (j_nil (ej_then (hK9 _ _ _ (CJ.s [(6, _)] ⟨rfl, trivial⟩ (cj_ret (ej_then_ret (?_)))))))
 exact ej_ret1 Tryz.results49 rfl fun w' hH hf => by
  have hx := Hp.keepX (f := ⟨w, 0, [tTx]⟩) (hH.drop 0) hf
  refine ⟨⟨y', p', c', rfl, hO', fun ho => by have := hH.1.row ho; rw [hO'.hT] at this; exact this, ?_⟩, hx, hf⟩
  by_cases hon : y'.on = true
  ·have hne' := hH.2.2.1 (by simp [Ent.ex, hon])
   by_cases hlt : y'.b < w.heap.size
   ·left
    exact Decidable.byContradiction fun hn => hne' ⟨y'.b, 0, [], false, false, w.heap[y'.b]?⟩ (restH_in hlt hn) (by simp [Ent.ex, hlt]) rfl
   ·right; omega
  ·have := hO'.sl.on (by omega); exact absurd this hon
theorem lab2_c (w : World) (a b : ByteArray) (lv : Value) (hlv : scal lv = true) : Calls Tryz.prog 51 #[.agg #[.string a, lv], .string b] w (Ret fun v w' => v = .int .i64 (ordI a b) ∧ Fr 0 [] w w') := by
 refine startJ (args := [_, _]) [(0, .agg [.string a, lv].toArray), (1, _)] 0 [] [] Tryz.func51 rfl Tryz.ntmps51 rfl rfl .nil ?_
 refine cj_seqF fun K1 hK1 => cj_reg ?_
 refine j_boxA (vs := [_, _]) rfl rfl fun b2 => ?_
 refine jA rfl rfl (j_nil (ej_then (hK1 _ _ _ (CJ.s [(1, _), (2, _)] ⟨rfl, rfl, trivial⟩ (cj_seqF fun K2 hK2 => cj_reg (j_val rfl (fun _ _ h => r_fl (q := 0) (ft := 9) Tryz.runUnderlying99 rfl Tryz.sizeOf9 rfl h) (j_valw rfl (fun a w ha hH hf => r_ldH 0 rfl rfl Tryz.isAgg9 rfl rfl ha hH) (jM rfl rfl ?_))))))))
 refine j_callQ (φ := fun v => v = .int .i64 (ordI a b)) Tryz.call48 rfl rfl (fun w1 hH hf => order_c w1 a b) fun v hv => ?_
 subst hv
 refine jA rfl rfl (j_nil (ej_then (hK2 _ _ _ (CJ.s [(4, _)] ⟨rfl, trivial⟩ (cj_ret (?_))))))
 exact ej_ret1 Tryz.results51 rfl fun w' hH hf => ⟨rfl, hf⟩
set_option maxHeartbeats 1000000 in
theorem bs2_c (w : World) (lv : Value) (qs : List (ByteArray × Value)) (key : ByteArray) (m : Nat) (fnd : Bool) (hv : OS tNu 2 w lv (qs.flatMap cKey)) (hsc : ∀ q ∈ qs, ∃ p l c, q.2 = .slice p l c) (hl : qs.length ≤ 1000000000) (hm : m ≤ qs.length) (h1 : ∀ (i : Nat) q, qs[i]? = some q → i < m → ltB q.1 key = true) (h2 : ∀ (i : Nat) q, qs[i]? = some q → m ≤ i → ltB q.1 key = false)
  (hfn : if fnd = true then ∃ q, qs[m]? = some q ∧ q.1 = key else m = qs.length) :
  Calls Tryz.prog 50 #[lv, .string key, .func (.func 51) #[] #[]] w (Ret fun v w' => v = .tuple #[.int .i64 (m : Nat), .bool fnd] ∧ Fr 0 [] w w') := by
 obtain ⟨p, l, c, rfl, hlen, -, hx⟩ := hv.openF
 have hfl : (qs.flatMap cKey).length = qs.length * 2 := flatMap_len (sz := 2) (fun _ => rfl) _
 obtain rfl : l = qs.length := by omega
 have hcell : ∀ (i : Nat) q, qs[i]? = some q → ∃ b p0 l0 c0, p = some ⟨b, 0, none⟩ ∧ q.2 = .slice p0 l0 c0 ∧ ∀ w', Fr 0 [] w w' → ∀ (j : Nat) (u : Value), (cKey (q.1, .slice p0 l0 c0))[j]? = some u → w'.cell? ⟨b, 0 + i * 2 + j, none⟩ = some u := fun i q hq => by
  have hi := (List.getElem?_eq_some_iff.1 hq).1
  obtain ⟨b, rfl, hcs⟩ := hx (by omega)
  obtain ⟨p0, l0, c0, hq2⟩ := hsc q (List.mem_of_getElem? hq)
  refine ⟨b, p0, l0, c0, rfl, hq2, fun w' hf j u hu => ?_⟩
  rw [Nat.zero_add]
  exact hcs ⟨w, 0, []⟩ rfl rfl w' hf _ u (flatMap_get (c := cKey) (sz := 2) (fun _ => rfl) hq j u (by rw [show cKey q = cKey (q.1, q.2) from rfl, hq2]; exact hu))
 refine startJ (args := [_, _, _]) [(0, _), (1, _), (2, _)] 0 [] [] Tryz.func50 rfl Tryz.ntmps50 rfl rfl .nil ?_
 refine cj_seqF fun K1 hK1 => cj_reg (jA rfl rfl (jA rfl rfl (j_nil (ej_then (hK1 _ _ _ (CJ.s [(0, _), (1, _), (2, _)] ⟨rfl, rfl, rfl, trivial⟩ (cj_seqF fun K2 hK2 => cj_reg (jM rfl rfl (j_val rfl (fun _ _ h => r_len Tryz.runUnderlying48 rfl h) (jA rfl rfl (j_nil (ej_then (hK2 _ _ _ ?_)))))))))))))
 refine CJ.s [(0, _), (1, _), (2, _), (8, _)] ⟨rfl, rfl, rfl, rfl, trivial⟩ (cj_seqF fun K3 hK3 => cj_reg (jM rfl rfl (jA rfl rfl (jA rfl rfl (j_nil (ej_then (hK3 _ _ _ (CJ.s [(0, _), (1, _), (2, _), (8, _), (9, _), (10, _)] ⟨rfl, rfl, rfl, rfl, rfl, rfl, trivial⟩ (cj_seqF fun K4 hK4 => cj_block ?_)))))))))
 -- LOOP 0 live [0, 1, 2, 8, 9, 10]
 refine cj_loop (σ := Nat × Nat) (fun s => [(0, .slice p qs.length c), (1, .string key), (2, .func (.func 51) #[] #[]), (8, .int .i64 (qs.length : Nat)), (9, .int .i64 (s.1 : Nat)), (10, .int .i64 (s.2 : Nat))]) (fun _ => []) (fun s _ => s.1 ≤ m ∧ m ≤ s.2 ∧ s.2 ≤ qs.length) (fun s => s.2 - s.1) (0, qs.length) ⟨rfl, rfl, rfl, rfl, rfl, rfl, trivial⟩ (fun w' hH hf => ⟨.nil, Nat.zero_le _, hm, Nat.le_refl _⟩) ?_
 rintro ⟨i, j⟩ w1 ⟨hi, hj, hjl⟩ hf1 hH1 KL hKL
 have hi : i ≤ m := hi
 have hj : m ≤ j := hj
 have hjl : j ≤ qs.length := hjl
 refine C.begin _ [] hf1 .nil ?_
 refine CJ.s [(0, .slice p qs.length c), (1, .string key), (2, .func (.func 51) #[] #[]), (8, .int .i64 (qs.length : Nat)), (9, .int .i64 (i : Nat)), (10, .int .i64 (j : Nat))] ⟨rfl, rfl, rfl, rfl, rfl, rfl, trivial⟩ (cj_seqF fun K5 hK5 => cj_seqF fun K6 hK6 => cj_reg (jM rfl rfl (jM rfl rfl (j_val rfl (fun _ _ h => r_lss rfl rfl h) (j_nil (ej_then (hK6 _ _ _ (CJ.s [(0, _), (1, _), (2, _), (8, _), (9, _), (10, _), (17, _)] ⟨rfl, rfl, rfl, rfl, rfl, rfl, rfl, trivial⟩ ?_))))))))
 refine cj_dec rfl (fun h17 => ?_) (fun h17 => ?_)
 ·have hij : i < j := by omega
  have hh := half_lo hij
  obtain ⟨g, hg⟩ : ∃ g, g = (i + j) / 2 := ⟨_, rfl⟩
  rw [← hg] at hh
  have hgl : g < qs.length := by omega
  obtain ⟨b, p0, l0, c0, rfl, hq2, hcl⟩ := hcell g _ (List.getElem?_eq_getElem hgl)
  refine cj_skip (ej_then (hK5 _ _ _ (CJ.s [(0, _), (1, _), (2, _), (8, _), (9, _), (10, _)] ⟨rfl, rfl, rfl, rfl, rfl, rfl, trivial⟩ (cj_block (cj_seqF fun K7 hK7 => cj_reg (jM rfl rfl (jM rfl rfl (j_val rfl (fun _ _ h => r_add rfl rfl h) (j_val rfl (fun _ _ h => r_conv Tryz.runUnderlying3 Tryz.runUnderlying153 rfl h) (j_val rfl (fun _ _ h => r_shr (q := 1) rfl rfl h) (j_val rfl (fun _ _ h => r_conv Tryz.runUnderlying153 Tryz.runUnderlying3 rfl h) ?_)))))))))))
  refine j_eqv (u := .int .i64 (g : Nat)) (congrArg (Value.int .i64) (by rw [hg]; exact half_eq (by omega) (by omega))) ?_
  refine jA rfl rfl (j_nil (ej_then (hK7 _ _ _ (CJ.s [(0, _), (1, _), (2, _), (8, _), (9, _), (10, _), (11, _)] ⟨rfl, rfl, rfl, rfl, rfl, rfl, rfl, trivial⟩ (cj_seqF fun K8 hK8 => cj_reg (jM rfl rfl (jM rfl rfl (jM rfl rfl (j_val rfl (fun _ _ h => r_idx Tryz.runUnderlying48 Tryz.sizeOf99 rfl rfl (by omega) h) (j_valw rfl (fun a w ha hH hf => r_loadA Tryz.isAgg99 Tryz.sizeOf99 rfl rfl (hcl w (hf)) ha) (jM rfl rfl ?_)))))))))))
  refine j_callVQ (g := 51) (φ := fun u => u = .int .i64 (ordI qs[g].1 key)) Tryz.call51 rfl rfl rfl (fun v' hH hf => lab2_c v' _ _ _ rfl) fun v hv => ?_
  subst hv
  refine j_val rfl (fun _ _ h => r_lss rfl rfl h) (j_nil (ej_then (hK8 _ _ _ (CJ.s [(0, _), (1, _), (2, _), (8, _), (9, _), (10, _), (11, _), (31, _)] ⟨rfl, rfl, rfl, rfl, rfl, rfl, rfl, rfl, trivial⟩ ?_))))
  refine cj_dec rfl (fun h31 => ?_) (fun h31 => ?_)
  ·have hlt : g < m := by
    rcases Nat.lt_or_ge g m with h | h
    ·exact h
    ·have := h2 g _ (List.getElem?_eq_getElem hgl) h
     unfold ordI at h31
     rw [this] at h31
     simp at h31
     split at h31 <;> omega
   refine cj_reg (jM rfl rfl (j_val rfl (fun _ _ h => r_inc (by omega) rfl rfl h) (jA rfl rfl (j_nil (ej_blk (ej_then ?_))))))
   first
   | exact fun w' hH hf => hKL (g + 1, j) _ w' ⟨hlt, hj, hjl⟩ hf .nil (by simp only; omega) ⟨rfl, rfl, rfl, rfl, rfl, rfl, trivial⟩
   | exact fun w' hH hf => hKL (i, g) _ w' ⟨hi, hge, by simp only; omega⟩ hf .nil (by simp only; omega) ⟨rfl, rfl, rfl, rfl, rfl, rfl, trivial⟩
  ·have hge : m ≤ g := by
    rcases Nat.lt_or_ge g m with h | h
    ·have := h1 g _ (List.getElem?_eq_getElem hgl) h
     unfold ordI at h31
     rw [if_pos this] at h31
     omega
    ·exact h
   refine cj_reg (jM rfl rfl (jA rfl rfl (j_nil (ej_blk (ej_then ?_)))))
   first
   | exact fun w' hH hf => hKL (g + 1, j) _ w' ⟨hlt, hj, hjl⟩ hf .nil (by simp only; omega) ⟨rfl, rfl, rfl, rfl, rfl, rfl, trivial⟩
   | exact fun w' hH hf => hKL (i, g) _ w' ⟨hi, hge, by simp only; omega⟩ hf .nil (by simp only; omega) ⟨rfl, rfl, rfl, rfl, rfl, rfl, trivial⟩
 ·obtain rfl : i = m := by omega
  refine cj_exit (ej_then_exit (ej_then_exit (ej_blk_hit (ej_then (hK4 _ _ _ (CJ.s [(0, _), (1, _), (2, _), (8, _), (9, _)] ⟨rfl, rfl, rfl, rfl, rfl, trivial⟩ (cj_seqF fun K9 hK9 => cj_reg (jM rfl rfl (jM rfl rfl (jM rfl rfl (j_val rfl (fun _ _ h => r_lss rfl rfl h) ?_)))))))))))
  refine j_eqv (u := .bool fnd) (congrArg Value.bool (by
   cases fnd with
   | true =>
    simp only [if_true] at hfn
    obtain ⟨q, hq, -⟩ := hfn
    have := (List.getElem?_eq_some_iff.1 hq).1
    exact decide_eq_true (by omega)
   | false =>
    simp at hfn
    exact decide_eq_false (by omega))) ?_
  refine jM rfl rfl ?_
  refine j_split (t := 39) rfl (fun hg39 => ?_) (fun hg39 => ?_)
  ·subst hg39
   simp only [if_true] at hfn
   obtain ⟨q0, hq0, hq0k⟩ := hfn
   obtain ⟨b, p0, l0, c0, rfl, hq2, hcl⟩ := hcell _ _ hq0
   have hiq := (List.getElem?_eq_some_iff.1 hq0).1
   refine j_gt rfl rfl (jM rfl rfl (j_gt rfl rfl (jM rfl rfl (j_gt rfl rfl (jM rfl rfl (j_gt rfl rfl (j_val rfl (fun _ _ h => r_idx Tryz.runUnderlying48 Tryz.sizeOf99 rfl rfl (by omega) h) (j_gt rfl rfl (j_valw rfl (fun a w ha hH hf => r_loadA Tryz.isAgg99 Tryz.sizeOf99 rfl rfl (hcl w (hf)) ha) (j_gt rfl rfl (jM rfl rfl (j_gt rfl rfl ?_))))))))))))
   refine j_callVQ (g := 51) (φ := fun u => u = .int .i64 0) Tryz.call51 rfl rfl rfl (fun v' hH hf => by
     have := lab2_c v' q0.1 key (.slice p0 l0 c0) rfl
     rw [show ordI q0.1 key = 0 by unfold ordI; rw [hq0k, ltB_irrefl]; simp] at this
     exact this) fun v hv => ?_
   subst hv
   refine j_gt rfl rfl (j_val rfl (fun _ _ h => r_eql rfl rfl h) (j_val rfl (fun _ _ h => r_pick_t rfl rfl h) (jA rfl rfl (jA rfl rfl (j_nil (ej_then (hK9 _ _ _ (CJ.s [(6, _), (7, _)] ⟨rfl, rfl, trivial⟩ (cj_ret (?_))))))))))
   first
   | exact ej_ret2 Tryz.results50 rfl rfl fun w' hH hf => ⟨rfl, hf⟩
  ·subst hg39
   refine j_gf rfl rfl rfl rfl (j_gf rfl rfl rfl rfl (j_gf rfl rfl rfl rfl (j_gf rfl rfl rfl rfl (j_gf rfl rfl rfl rfl (j_gf rfl rfl rfl rfl (j_gf rfl rfl rfl rfl (j_gf rfl rfl rfl rfl (j_val rfl (fun _ _ h => r_pick_f rfl rfl h) (jA rfl rfl (jA rfl rfl (j_nil (ej_then (hK9 _ _ _ (CJ.s [(6, _), (7, _)] ⟨rfl, rfl, trivial⟩ ?_))))))))))))))
   refine cj_ret (?_)
   first
   | exact ej_ret2 Tryz.results50 rfl rfl fun w' hH hf => ⟨rfl, hf⟩
theorem ins2_c (w : World) (y : Ent) (p : Option Addr) (l c : Nat) (xs : List Value) (key : ByteArray) (vb : Nat) (hO : Own tNu 2 y p l c xs) (hb : y.on = true → Blk w y.b tNu y.cs) (hv : Blk w vb tNu [.string key, .slice none 0 0]) (hne : y.on = true → y.b ≠ vb) (hl : l ≤ 1000000000) :
  Calls Tryz.prog 52 #[.slice p l c, .int .i64 (l : Nat), .slice (some ⟨vb, 0, none⟩) 1 1] w (Ret fun v w' => (∃ y' p' c', v = .slice p' (l + 1) c' ∧ Own tNu 2 y' p' (l + 1) c' (xs ++ [.string key, .slice none 0 0]) ∧ (y'.on = true → Blk w' y'.b tNu y'.cs) ∧ (y'.b ∈ offE y ++ [vb] ∨ w.heap.size ≤ y'.b)) ∧ KeepX (offE y ++ [vb]) w w' ∧ Fr 0 [tNu] w w') := by
 have hlc := hO.sl.2.1
 have hyv : y.on = true → y.b ∈ offE y ++ [vb] := fun ho => by simp [offE, ho]
 have hH0 : Hp ⟨w, 0, [tNu]⟩ w (⟨vb, tNu, [.string key, .slice none 0 0], true, true, none⟩ :: y :: restH w (offE y ++ [vb])) := (Hp.rowO hO hb hyv).add hv (fun _ => .inr ⟨Nat.zero_le _, by simp⟩) fun z hz hze => by
  rcases List.mem_cons.1 hz with rfl | hz
  ·exact hne (by simp only [Ent.ex, hO.ho, Option.isSome_none, Bool.or_false] at hze; exact hze)
  ·exact rest_ne (by simp) z hz hze
 refine startJ (args := [_, _, _]) [(0, _), (1, _), (2, _)] 0 [tNu] _ Tryz.func52 rfl Tryz.ntmps52 rfl rfl hH0 ?_
 refine cj_seqF fun K1 hK1 => cj_reg (jA rfl rfl (j_nil (ej_then (hK1 _ _ _ (CJ.s [(0, _), (1, _), (2, _)] ⟨rfl, rfl, rfl, trivial⟩ (cj_seqF fun K2 hK2 => cj_reg (jM rfl rfl (jM rfl rfl (j_val rfl (fun _ _ h => r_slcutP (i := l) (l := l) Tryz.runUnderlying48 Tryz.sizeOf99 rfl rfl (Nat.le_refl _) h) (j_nil (ej_then (hK2 _ _ _ (CJ.s [(0, _), (1, _), (2, _)] ⟨rfl, rfl, rfl, trivial⟩ ?_)))))))))))))
 refine cj_seqF fun K3 hK3 => cj_reg (jM rfl rfl (j_val rfl (fun _ _ h => r_len Tryz.runUnderlying48 rfl h) (jA rfl rfl (j_nil (ej_then (hK3 _ _ _ (CJ.s [(0, _), (1, _), (2, _), (7, _)] ⟨rfl, rfl, rfl, rfl, trivial⟩ (cj_seqF fun K4 hK4 => cj_seqF fun K5 hK5 => cj_reg (jM rfl rfl (j_val rfl (fun _ _ h => r_eql rfl rfl h) ?_))))))))))
 refine j_eqv (u := .bool false) rfl ?_
 refine j_nil (ej_then (hK5 _ _ _ (CJ.s [(0, _), (1, _), (2, _), (7, _), (16, _)] ⟨rfl, rfl, rfl, rfl, rfl, trivial⟩ ?_)))
 refine cj_if_f rfl ?_
 refine cj_skip (ej_then (hK4 _ _ _ (CJ.s [(0, _), (1, _), (2, _), (7, _)] ⟨rfl, rfl, rfl, rfl, trivial⟩ (cj_seqF fun K6 hK6 => cj_reg (jM rfl rfl (j_val rfl (fun _ _ h => r_len Tryz.runUnderlying48 rfl h) (jA rfl rfl (j_nil (ej_then (hK6 _ _ _ (CJ.s [(0, _), (1, _), (2, _), (7, _), (8, _)] ⟨rfl, rfl, rfl, rfl, rfl, trivial⟩ (cj_seqF fun K7 hK7 => cj_seqF fun K8 hK8 => cj_reg (jM rfl rfl ?_)))))))))))))
 refine jM rfl rfl (j_val rfl (fun _ _ h => r_eql rfl rfl h) ?_)
 refine j_eqv (u := .bool true) (congrArg Value.bool (decide_eq_true rfl)) ?_
 refine j_nil (ej_then (hK8 _ _ _ (CJ.s [(0, _), (1, _), (2, _), (7, _), (8, _), (22, _)] ⟨rfl, rfl, rfl, rfl, rfl, rfl, trivial⟩ ?_)))
 refine cj_if_t rfl ?_
 refine cj_seqF fun K9 hK9 => cj_reg (jM rfl rfl (jM rfl rfl ?_))
 refine j_appO (H := y :: restH w (offE y ++ [vb])) 0 rfl hO Tryz.runUnderlying48 el99 rfl rfl rfl rfl rfl (by omega) rfl fun y' p' c' hO' => ?_
 refine jA rfl rfl (j_nil (ej_then (hK9 _ _ _ (CJ.s [(6, _)] ⟨rfl, trivial⟩ (cj_ret (ej_then_ret (?_)))))))
 exact ej_ret1 Tryz.results52 rfl fun w' hH hf => by
  have hx := Hp.keepX (f := ⟨w, 0, [tNu]⟩) (hH.drop 0) hf
  refine ⟨⟨y', p', c', rfl, hO', fun ho => by have := hH.1.row ho; rw [hO'.hT] at this; exact this, ?_⟩, hx, hf⟩
  by_cases hon : y'.on = true
  ·have hne' := hH.2.2.1 (by simp [Ent.ex, hon])
   by_cases hlt : y'.b < w.heap.size
   ·left
    exact Decidable.byContradiction fun hn => hne' ⟨y'.b, 0, [], false, false, w.heap[y'.b]?⟩ (restH_in hlt hn) (by simp [Ent.ex, hlt]) rfl
   ·right; omega
  ·have := hO'.sl.on (by omega); exact absurd this hon
end Go.Proofs.YtifnhinopjgfaaaGreat
