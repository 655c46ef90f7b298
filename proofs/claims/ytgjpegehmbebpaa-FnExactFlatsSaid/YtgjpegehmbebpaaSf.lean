/-
  What the flat values of a profile are: the map of them. Conditions: the profile is well formed.
-/
import Derived.Test.YtgjpegehmbebpaaFl
namespace Go.Fw
open Go
section
variable {P : Program} {Q : Exit → Act → World → Prop} {n : Nat} {f : Fm} {e : Env} {H : Heap} {ops : Array Oper} {rest : List Oper} {d ty : Nat} {pos : String} {af : Array Edge}
variable {κ : Type} [DecidableEq κ] {enc : κ → Value} {ok : World → κ → Prop} {ms : List (κ × Value)} {es : List MapEntry} {ck kt vt mt b : Nat}
theorem j_delete0 {m kx : Operand} {k : κ} {xt : Nat} (i : Nat) (hy : H[i]? = some (mpE b es ck)) (hu : ∀ w, (underlying mt).run P w = .ok (.map kt vt) w) (hk : KeyT P kt enc ok) (hM : MEnc enc ms es ck)
    (hm : ev e m = some (.map (some b))) (hkx : ev e kx = some (enc k)) (hok : ∀ w, Hp f w H → f.ok w → (∀ p ∈ ms, ok w p.1) ∧ ok w k)
    (kk : ∀ es', MEnc enc (mdel ms k) es' ck → es'.Sublist es → J P ops Q n f e (putH H i (mpE b es' ck)) rest) : J P ops Q n f e H (⟨none, .call ⟨.builtin .delete, #[m, kx], #[mt, xt]⟩, ty, pos, af, none⟩ :: rest) := fun w hH hf => by
  have h := hok w hH hf
  obtain ⟨es', w', h1, h2, h3, h4⟩ := run_delete (P := P) hu hk hM (hH.obj hy rfl) h.1 h.2 (rt := ty) (xt := xt)
  obtain ⟨h5, h6⟩ := hH.putO hy rfl h4 rfl hf
  refine L.valn (v := .tuple #[]) (fun a ha => ?_) (kk es' h2 h3 w' h5 h6)
  simp only [execOp, resolve]
  simp [invoke, builtin, ha.ev hm, ha.ev hkx, h1]
theorem j_entrystoreI {m sx vx : Operand} {k : κ} {u v : Value} {j : Nat} {s : Int} (i : Nat) (hy : H[i]? = some (mpE b es ck)) (hM : MEnc enc ms es ck) (hmx : mix ms k 0 = some (j, v)) (hfi : es.findIdx? (fun e => (e.born : Int) == s) = some j)
    (hm : ev e m = some (.map (some b))) (hsx : ev e sx = some (.int .i64 s)) (hvx : ev e vx = some u)
    (kk : ∀ es', MEnc enc (mset ms k u) es' ck → J P ops Q n f e (putH H i (mpE b es' ck)) rest) : J P ops Q n f e H (⟨none, .entryStore mt m sx vx, ty, pos, af, none⟩ :: rest) := by
  obtain ⟨t, rfl⟩ : ∃ t : Nat, s = t := by
    obtain ⟨h, h2, -⟩ := List.findIdx?_eq_some_iff_getElem.1 hfi
    exact ⟨_, (beq_iff_eq.1 h2).symm⟩
  exact j_entrystore i hy hM hmx hfi hm hsx hvx kk
/-- a look-up, from a fact of the world -/
def MapHas (enc : κ → Value) (b : Nat) (k : κ) (z u : Value) (w : World) : Prop := ∃ (ms : List (κ × Value)) (es : List MapEntry) (ck : Nat), w.heap[b]? = some (.map es.toArray ck) ∧ MEnc enc ms es ck ∧ (mget ms k).getD z = u
theorem r_lookT {m kx : Operand} {k : κ} {z u : Value} (hu : ∀ w, (underlying mt).run P w = .ok (.map kt vt) w) (hk : KeyT P kt enc (fun _ _ => True)) (hz : ∀ w, (zeroValue vt).run P w = .ok z w)
    (hm : ev e m = some (.map (some b))) (hkx : ev e kx = some (enc k)) {a : Act} {w : World} (ha : Sat n e a) (hT : MapHas enc b k z u w) :
    (execOp a.eval ⟨some d, .lookup mt m kx false, ty, pos, af, none⟩).run P w = .ok (.value u) w := by
  obtain ⟨ms, es, ck, h1, h2, h3⟩ := hT
  have := run_lookup (P := P) hu hk h2 h1 (fun _ _ => trivial) (k := k) trivial hz false
  simp only [execOp, ha.ev hm, ha.ev hkx]
  simp [this, h3]
theorem mem_mset' {k : κ} {u : Value} : ∀ {ms : List (κ × Value)} {p : κ × Value}, p ∈ mset ms k u → p ∈ ms ∨ p = (k, u)
  | [], p, h => by simp [mset] at h; exact .inr h
  | (k', y) :: r, p, h => by
    simp only [mset] at h
    split at h <;> rename_i he
    · rcases List.mem_cons.1 h with h | h
      · exact .inr (by rw [h, he])
      · exact .inl (by simp [h])
    · rcases List.mem_cons.1 h with h | h
      · exact .inl (by simp [h])
      · rcases mem_mset' h with h | h
        · exact .inl (by simp [h])
        · exact .inr h
end
/-! #### a drawn region with a fact of the world that stays while its head runs -/
section
variable {P : Program} {Q : Exit → Act → World → Prop} {n : Nat} {f : Fm} {e : Env} {H : Heap} {ops : Array Oper} {nt : Nat} {HS : Heap} {r : Sched} {d ty : Nat} {pos : String} {af : Array Edge} {T : World → Prop}
def DJT (P : Program) (ops : Array Oper) (Q : Exit → Act → World → Prop) (f : Fm) (HS : Heap) (T : World → Prop) (nt n : Nat) (e : Env) (H : Heap) (s : Sched) : Prop :=
  ∀ w, Hp f w H → f.ok w → DS P ops Q (fun w => Sx f HS w ∧ T w) nt n e s w
theorem cj_drawT {id : Nat} {l : List Oper} {HS : Heap} (nt : Nat) (s : Sched) (idx : List Nat) (_ : pickH H idx = some HS) (T : World → Prop) (hm : P.follows .mixedOrders = true) (hs : schedB l.toArray nt s = true)
    (h : DJT P l.toArray (NoP Q) f HS T nt n e H s) : CJ P (.region id l.toArray true) Q n f e H := fun w hH hf =>
  c_draw nt s hm hs fun w1 hD => ⟨_, h w1 (hH.mono fun _ _ _ o hb => by rw [hD.heap]; exact hb) (Fr.dr hf hD)⟩
theorem dj_valT {i : Nat} {op : Op} {v : Value} (hi : ops[i]? = some ⟨some d, op, ty, pos, af, none⟩) (hd : Nat.blt d n = true) (hS : ∀ x ∈ HS, x ∈ H) (hT : ∀ w, Hp f w H → f.ok w → T w)
    (hr : ∀ a w, Sat n e a → (execOp a.eval ⟨some d, op, ty, pos, af, none⟩).run P w = .ok (.value v) w) (k : DJT P ops Q f HS T nt n ((d, v) :: e) H r) : DJT P ops Q f HS T nt n e H ((i, true) :: r) := fun w hH hf =>
  d_light hi hd (fun a w ha _ => hr a w ha) ⟨⟨fun x hx ho => hH.blk (hS x hx) ho, hf⟩, hT w hH hf⟩ (k w hH hf)
theorem dj_ldT {i : Nat} {op : Op} {v : Value} (hi : ops[i]? = some ⟨some d, op, ty, pos, af, none⟩) (hd : Nat.blt d n = true) (hS : ∀ x ∈ HS, x ∈ H) (hT : ∀ w, Hp f w H → f.ok w → T w)
    (hr : ∀ a w, Sat n e a → Sx f HS w → (execOp a.eval ⟨some d, op, ty, pos, af, none⟩).run P w = .ok (.value v) w) (k : DJT P ops Q f HS T nt n ((d, v) :: e) H r) : DJT P ops Q f HS T nt n e H ((i, true) :: r) := fun w hH hf =>
  d_light hi hd (fun a w ha hS => hr a w ha hS.1) ⟨⟨fun x hx ho => hH.blk (hS x hx) ho, hf⟩, hT w hH hf⟩ (k w hH hf)
theorem dj_lkT {i : Nat} {op : Op} {v : Value} (hi : ops[i]? = some ⟨some d, op, ty, pos, af, none⟩) (hd : Nat.blt d n = true) (hS : ∀ x ∈ HS, x ∈ H) (hT : ∀ w, Hp f w H → f.ok w → T w)
    (hr : ∀ a w, Sat n e a → T w → (execOp a.eval ⟨some d, op, ty, pos, af, none⟩).run P w = .ok (.value v) w) (k : DJT P ops Q f HS T nt n ((d, v) :: e) H r) : DJT P ops Q f HS T nt n e H ((i, true) :: r) := fun w hH hf =>
  d_light hi hd (fun a w ha hS => hr a w ha hS.2) ⟨⟨fun x hx ho => hH.blk (hS x hx) ho, hf⟩, hT w hH hf⟩ (k w hH hf)
theorem dj_effW {i : Nat} {o : Oper} (hi : ops[i]? = some o)
    (h : ∀ K : Act → World → Prop, (∀ e H, (Nat.blt i nt = false ∨ ((∀ x ∈ HS, x ∈ H) ∧ ∀ w, Hp f w H → f.ok w → T w)) → DJT P ops Q f HS T nt n e H r → NJ K n f e H) → J P ops (Exit.then K Q) n f e H [o]) : DJT P ops Q f HS T nt n e H ((i, false) :: r) := fun w hH hf =>
  d_eff hi fun K hK => h K (fun e H hs hd w hH hf => hK e w (fun hlt => by
    have h3 : Nat.blt i nt = true := by simpa using hlt
    rcases hs with hs | hs
    · rw [hs] at h3; exact absurd h3 (by simp)
    · exact ⟨⟨fun x hx ho => hH.blk (x := x) (hs.1 x hx) ho, hf⟩, hs.2 w hH hf⟩) (hd w hH hf)) w hH hf
theorem djt_end (h : EJ Q .normal n f e H) : DJT P ops (NoP Q) f HS T nt n e H [] := fun w hH hf => d_nil (h w hH hf)
end
end Go.Fw
namespace Go.Proofs.Ytgjpegehmbebpaa
open Go Go.Fw Go.Proofs
/-- the sums so far, by nodes -/
structure SM (x : PProf) (kv k : Nat) (ms : List (FK × Value)) : Prop where
  get : ∀ i, (mget ms (fkOf i 0) = some (.int .i64 (flS x kv k i))) ∨ (mget ms (fkOf i 0) = none ∧ flS x kv k i = 0)
  key : ∀ p ∈ ms, ∃ i, p = (fkOf i 0, .int .i64 (flS x kv k i))
theorem SM.getD {x : PProf} {kv k : Nat} {ms : List (FK × Value)} (h : SM x kv k ms) (i : NI) : (mget ms (fkOf i 0)).getD (.int .i64 0) = .int .i64 (flS x kv k i) := by
  rcases h.get i with h1 | ⟨h1, h2⟩
  · rw [h1]; rfl
  · rw [h1, h2]; rfl
theorem SM.step {x : PProf} {kv k : Nat} {ms : List (FK × Value)} {i0 : NI} (hk : k < x.samples.length) (hn : (ms.map (·.1)).Nodup) (h : SM x kv k ms) (hl : leafI x x.samples[k] = some i0) : SM x kv (k + 1) (mset ms (fkOf i0 0) (.int .i64 (IntKind.i64.wrap (flS x kv k i0 + x.samples[k].values.getD kv 0)))) := by
  have hs : ∀ i, flS x kv (k + 1) i = if i = i0 then IntKind.i64.wrap (flS x kv k i0 + x.samples[k].values.getD kv 0) else flS x kv k i := fun i => by
    rw [flS_succ x kv hk, hl]
    by_cases hi : i = i0
    · subst hi; simp
    · rw [if_neg (fun he => hi (by cases he; rfl)), if_neg hi]
  refine ⟨fun i => ?_, fun p hp => ?_⟩
  · rw [mget_mset, hs]
    by_cases hi : i = i0
    · subst hi; rw [if_pos rfl, if_pos rfl]; exact .inl rfl
    · rw [if_neg fun he => hi (fkOf_inj he).1, if_neg hi]; exact h.get i
  · rcases mem_mset' hp with h1 | rfl
    · obtain ⟨i, rfl⟩ := h.key p h1
      by_cases hi : i = i0
      · subst hi
        have h2 := mget_of_mem (mset_nodup hn _ _) hp
        rw [mget_mset, if_pos rfl] at h2
        refine ⟨i, ?_⟩
        rw [hs, if_pos rfl]
        exact congrArg _ (Option.some.inj h2).symm
      · exact ⟨i, by rw [hs, if_neg hi]⟩
    · exact ⟨i0, by rw [hs, if_pos rfl]⟩
theorem SM.skip {x : PProf} {kv k : Nat} {ms : List (FK × Value)} (hk : k < x.samples.length) (h : SM x kv k ms) (hl : leafI x x.samples[k] = none) : SM x kv (k + 1) ms := by
  have hs : ∀ i, flS x kv (k + 1) i = flS x kv k i := fun i => by rw [flS_succ x kv hk, hl]; exact if_neg (by simp)
  exact ⟨fun i => by rw [hs]; exact h.get i, fun p hp => by obtain ⟨i, hi⟩ := h.key p hp; exact ⟨i, by rw [hs]; exact hi⟩⟩
theorem encFK_inj {i j : FK} (h : encFK i = encFK j) : i = j := by
  cases i; cases j
  simp [encFK] at h
  simp [h]
set_option maxHeartbeats 1000000 in
theorem specFlats_c (w : World) (cs : List Value) (x : PProf) (kv : Nat) (h : RProf w cs x) (hx : WellP x) (hkv : kv < x.types.length) :
    Calls Try.prog 8 #[.agg cs.toArray, .int .i64 (kv : Nat)] w (Ret fun v w' => (∃ (mb : Nat) (ms : List (FK × Value)) (es : List MapEntry) (ck : Nat), v = .map (some mb) ∧ w'.heap[mb]? = some (.map es.toArray ck) ∧ MEnc encFK ms es ck ∧ (∀ p ∈ ms, ∃ i, p = (fkOf i 0, .int .i64 (flS x kv x.samples.length i)) ∧ flS x kv x.samples.length i ≠ 0) ∧
      ∀ i, flS x kv x.samples.length i ≠ 0 → mget ms (fkOf i 0) = some (.int .i64 (flS x kv x.samples.length i))) ∧ Fr 0 [] w w') := by
  have hP := h
  obtain ⟨la, ls, lm, ll, lf, lcm, rfl, hla, hls, hlm, hll, hlf, hlc, -⟩ := h
  obtain ⟨ps, csm, rfl, -, hxs⟩ := hls.open
  obtain ⟨pl, cl, rfl, -, hxl⟩ := hll.open
  obtain ⟨pf, cf, rfl, -, hxf⟩ := hlf.open
  have hs60 := hx.nsam
  refine startJ (args := [_, _]) [(0, _), (1, _)] 0 [] [] Try.func8 rfl Try.ntmps8 rfl rfl .nil ?_
  refine cj_seqF fun K1 hK1 => ?_
  refine cj_reg ?_
  refine j_boxA (vs := [_, _, _, _, _, _, _, _, _, _, _, _, _, _]) rfl rfl fun b2 => ?_
  refine j_val rfl (fun a w ha => r_assign rfl ha) ?_
  refine j_nil ?_
  refine ej_then (hK1 _ _ _ ?_); clear hK1
  refine CJ.sub (e' := [(1, _), (2, _)]) ⟨rfl, rfl, trivial⟩ ?_
  refine cj_seqF fun K2 hK2 => ?_
  refine cj_reg ?_
  refine j_mkmap (fun _ h => by cases h) rfl fun b13 => ?_
  refine j_val rfl (fun a w ha => r_assign rfl ha) ?_
  refine j_nil ?_
  refine ej_then (hK2 _ _ _ ?_); clear hK2
  refine CJ.sub (e' := [(1, _), (2, _), (5, _)]) ⟨rfl, rfl, rfl, trivial⟩ ?_
  refine cj_seqF fun K3 hK3 => ?_
  refine cj_seqF fun K4 hK4 => ?_
  refine cj_reg ?_
  refine j_val rfl (fun a w ha => r_fl (q := 2) (ft := 23) Try.runUnderlying31 rfl Try.sizeOf23 rfl ha) ?_
  refine j_valw rfl (fun a w ha hH hf => r_ldH 1 rfl rfl Try.isAgg23 rfl rfl ha hH) ?_
  refine j_val rfl (fun a w ha => r_len Try.runUnderlying23 rfl ha) ?_
  refine j_val rfl (fun a w ha => r_move rfl ha) ?_
  refine j_nil ?_
  refine ej_then (hK4 _ _ _ ?_); clear hK4
  refine CJ.sub (e' := [(1, _), (2, _), (5, _), (15, _), (16, _), (17, _)]) ⟨rfl, rfl, rfl, rfl, rfl, rfl, trivial⟩ ?_
  refine cj_block ?_
  -- LOOP 0 live [1, 2, 5, 15, 16, 17]
  refine cj_loop (σ := Nat × List (FK × Value) × List MapEntry × Nat) (fun s => [(1, .int .i64 (kv : Nat)), (2, ptr b2), (5, .map (some b13)), (15, .slice ps x.samples.length csm), (16, .int .i64 (x.samples.length : Nat)), (17, .int .i64 (s.1 : Nat))])
    (fun s => [mpE b13 s.2.2.1 s.2.2.2, ⟨b2, 31, [la, .string x.deflt, .slice ps x.samples.length csm, lm, .slice pl x.locs.length cl, .slice pf x.funcs.length cf, lcm, .string x.drop, .string x.keep, .int .i64 x.time, .int .i64 x.dur, .int .i64 x.period, .string x.per.ty, .string x.per.unit], true, true, none⟩])
    (fun s _ => s.1 ≤ x.samples.length ∧ MEnc encFK s.2.1 s.2.2.1 s.2.2.2 ∧ SM x kv s.1 s.2.1) (fun s => x.samples.length - s.1)
    (0, [], [], 0) ⟨rfl, rfl, rfl, rfl, rfl, rfl, trivial⟩ (fun w' hH hf => ⟨hH, Nat.zero_le _, MEnc.nil, ⟨fun i => .inr ⟨rfl, rfl⟩, by simp⟩⟩) ?_
  rintro ⟨k, ms, es, ck⟩ w1 ⟨hk, hM, hSM⟩ hf1 hH1 KL hKL
  have hk : k ≤ x.samples.length := hk
  have hM : MEnc encFK ms es ck := hM
  have hSM : SM x kv k ms := hSM
  refine C.begin _ _ hf1 hH1 ?_
  refine CJ.sub (e' := [(1, _), (2, _), (5, _), (15, _), (16, _), (17, .int .i64 (k : Nat))]) ⟨rfl, rfl, rfl, rfl, rfl, rfl, trivial⟩ ?_
  refine cj_seqF fun K5 hK5 => ?_
  refine cj_reg ?_
  refine j_val rfl (fun a w ha => r_lss rfl rfl ha) ?_
  refine j_nil ?_
  refine ej_then (hK5 _ _ _ ?_); clear hK5
  refine CJ.sub (e' := [(1, _), (2, _), (5, _), (15, _), (16, _), (17, _), (18, _)]) ⟨rfl, rfl, rfl, rfl, rfl, rfl, rfl, trivial⟩ ?_
  refine cj_seqF fun K6 hK6 => ?_
  refine cj_dec rfl (fun h18 => ?_) (fun h18 => ?_)
  · have hk' : k < x.samples.length := by omega
    obtain ⟨bs, os, cs, rfl, hcs, hR, hcell⟩ := hxs k x.samples[k] (List.getElem?_eq_getElem hk')
    obtain ⟨l1, l2, l3, l4, rfl, hl1, hl2, hl3, hl4⟩ := hR
    obtain ⟨p1, c1, rfl, -, hx1⟩ := hl1.open
    obtain ⟨p2, c2, rfl, -, hx2⟩ := hl2.open
    obtain ⟨p3, c3, rfl, -, -⟩ := hl3.open
    obtain ⟨p4, c4, rfl, -, -⟩ := hl4.open
    have hws := hx.samples _ (List.getElem_mem hk')
    refine cj_skip (ej_then (hK6 _ _ _ ?_)); clear hK6
    refine CJ.sub (e' := [(1, _), (2, _), (5, _), (15, _), (16, _), (17, _)]) ⟨rfl, rfl, rfl, rfl, rfl, rfl, trivial⟩ ?_
    refine cj_seqF fun K7 hK7 => ?_
    refine cj_block ?_
    refine cj_seqF fun K8 hK8 => ?_
    refine cj_reg ?_
    refine j_val rfl (fun a w ha => r_idx Try.runUnderlying23 Try.sizeOf51 rfl rfl (by omega) ha) ?_
    refine j_valw rfl (fun a w ha hH hf => r_loadA Try.isAgg51 Try.sizeOf51 rfl rfl (hcell w (hf.keepAll (.inr rfl))) ha) ?_
    refine j_allocA (zs := [(.slice none 0 0), (.slice none 0 0), (.slice none 0 0), (.slice none 0 0)]) Try.zeroValue51 rfl fun b7 => ?_
    refine j_storeN (cs' := [_, _, _, _]) (H' := [_, _, _]) 0 rfl rfl rfl rfl Try.sizeOf51 rfl rfl rfl rfl rfl rfl rfl ?_
    refine j_nil ?_
    refine ej_then (hK8 _ _ _ ?_); clear hK8
    refine CJ.sub (e' := [(1, _), (2, _), (5, _), (7, _), (15, _), (16, _), (17, _)]) ⟨rfl, rfl, rfl, rfl, rfl, rfl, rfl, trivial⟩ ?_
    refine cj_seqF fun K9 hK9 => ?_
    refine cj_seqF fun K10 hK10 => ?_
    refine cj_reg ?_
    refine j_val rfl (fun a w ha => r_fl (q := 0) (ft := 46) Try.runUnderlying51 rfl Try.sizeOf46 rfl ha) ?_
    refine j_valw rfl (fun a w ha hH hf => r_ldH 0 rfl rfl Try.isAgg46 rfl rfl ha hH) ?_
    refine j_val rfl (fun a w ha => r_len Try.runUnderlying46 rfl ha) ?_
    refine j_val rfl (fun a w ha => r_eql rfl rfl ha) ?_
    refine j_nil ?_
    refine ej_then (hK10 _ _ _ ?_); clear hK10
    refine CJ.sub (e' := [(1, _), (2, _), (5, _), (7, _), (15, _), (16, _), (17, _), (24, _)]) ⟨rfl, rfl, rfl, rfl, rfl, rfl, rfl, rfl, trivial⟩ ?_
    refine cj_dec rfl (fun h24 => ?_) (fun h24 => ?_)
    · have hst : x.samples[k].stack = [] := List.eq_nil_of_length_eq_zero (by omega)
      have hleaf : leafI x x.samples[k] = none := by simp [leafI, hst]
      refine cj_exit (ej_then_exit (ej_blk_hit (ej_then (hK7 _ _ _ ?_)))); clear hK7
      refine CJ.sub (e' := [(1, _), (2, _), (5, _), (15, _), (16, _), (17, _)]) ⟨rfl, rfl, rfl, rfl, rfl, rfl, trivial⟩ ?_
      refine cj_reg ?_
      refine j_val rfl (fun a w ha => r_inc (by omega) rfl rfl ha) ?_
      refine j_val rfl (fun a w ha => r_move rfl ha) ?_
      refine j_nil ?_
      refine ej_then ?_
      first
      | exact fun w' hH hf => hKL (k + 1, ms, es, ck) _ w' ⟨hk', hM, hSM.skip hk' hleaf⟩ hf hH.2.2.2 (by simp only; omega) ⟨rfl, rfl, rfl, rfl, rfl, rfl, trivial⟩
      | exact fun w' hH hf => hKL (k + 1, _, es2, ck1) _ w' ⟨hk', by rw [mset_mset] at hM2; exact hM2, by have := hSM.step hk' hM.keys hleaf; rw [hvd] at this; exact this⟩ hf hH.2.2.2.2.2.2.2.2.2 (by simp only; omega) ⟨rfl, rfl, rfl, rfl, rfl, rfl, trivial⟩
      | exact fun w' hH hf => hKL (k + 1, _, es2, ck1) _ w' ⟨hk', by rw [mset_mset] at hM2; exact hM2, by have := hSM.step hk' hM.keys hleaf; rw [hvd] at this; exact this⟩ hf hH.2.2.2.2.2.2.2.2.2.2.2.2 (by simp only; omega) ⟨rfl, rfl, rfl, rfl, rfl, rfl, trivial⟩
    · have hst : 0 < x.samples[k].stack.length := by omega
      obtain ⟨z, r, hzr⟩ : ∃ z r, x.samples[k].stack = z :: r := by
        cases hs : x.samples[k].stack with
        | nil => rw [hs] at hst; simp at hst
        | cons z r => exact ⟨z, r, rfl⟩
      have hz := hws.2.2.2.2 z (by rw [hzr]; simp)
      have hzl : z.toNat < x.locs.length := by omega
      obtain ⟨b1, o1, cs1, rfl, -, hR1, hcell1⟩ := hx1 0 z (by rw [hzr]; rfl)
      obtain ⟨rfl, -⟩ := hR1
      obtain ⟨bl, ol, csl, rfl, hcsl, hRl, hcelll⟩ := hxl z.toNat x.locs[z.toNat] (List.getElem?_eq_getElem hzl)
      obtain ⟨lln, rfl, -, -, -, hln⟩ := hRl
      obtain ⟨pn, cn, rfl, -, hxn⟩ := hln.open
      have hwl := hx.tab.locs _ (List.getElem_mem hzl)
      have hkval : kv < x.samples[k].values.length := by rw [hws.1]; exact hkv
      obtain ⟨b2', o2, cs2, rfl, -, hR2, hcell2⟩ := hx2 kv x.samples[k].values[kv] (List.getElem?_eq_getElem hkval)
      obtain ⟨rfl, -⟩ := hR2
      have hvd : x.samples[k].values.getD kv 0 = x.samples[k].values[kv] := by simp [hkval]
      have hleaf0 : leafI x x.samples[k] = (infos x.funcs x.locs[z.toNat])[0]? := by simp [leafI, hzr, hzl]
      refine cj_skip (ej_then (hK9 _ _ _ ?_)); clear hK9
      refine CJ.sub (e' := [(1, _), (2, _), (5, _), (7, _), (15, _), (16, _), (17, _)]) ⟨rfl, rfl, rfl, rfl, rfl, rfl, rfl, trivial⟩ ?_
      refine cj_seqF fun K11 hK11 => ?_
      refine cj_drawI 10 [(0, true), (1, true), (2, true), (3, true), (4, true), (5, true), (6, true), (7, true), (8, false), (9, false)] [0, 1, 2] rfl (by kernel_rfl) (by kernel_rfl) ?_
      refine dj_val rfl rfl (sub_of [0, 1, 2] rfl) (fun a w ha => r_fl (q := 4) (ft := 25) Try.runUnderlying31 rfl Try.sizeOf25 rfl ha) ?_
      refine dj_ld rfl rfl (sub_of [0, 1, 2] rfl) (fun a w ha hS => r_ldS 2 rfl rfl Try.isAgg25 rfl rfl ha hS) ?_
      refine dj_val rfl rfl (sub_of [0, 1, 2] rfl) (fun a w ha => r_fl (q := 0) (ft := 46) Try.runUnderlying51 rfl Try.sizeOf46 rfl ha) ?_
      refine dj_ld rfl rfl (sub_of [0, 1, 2] rfl) (fun a w ha hS => r_ldS 0 rfl rfl Try.isAgg46 rfl rfl ha hS) ?_
      refine dj_val rfl rfl (sub_of [0, 1, 2] rfl) (fun a w ha => r_idxI 0 Try.runUnderlying46 Try.sizeOf3 rfl rfl rfl rfl hst ha) ?_
      refine dj_ld rfl rfl (sub_of [0, 1, 2] rfl) (fun a w ha hS => r_load Try.isAgg3 rfl (hcell1 w (hS.2.keepAll (.inr rfl)) 0 _ rfl) ha) ?_
      refine dj_val rfl rfl (sub_of [0, 1, 2] rfl) (fun a w ha => r_idxI z.toNat Try.runUnderlying25 Try.sizeOf80 rfl rfl rfl (by omega) hzl ha) ?_
      refine dj_ld rfl rfl (sub_of [0, 1, 2] rfl) (fun a w ha hS => r_loadA Try.isAgg80 Try.sizeOf80 rfl rfl (hcelll w (hS.2.keepAll (.inr rfl))) ha) ?_
      refine dj_eff rfl fun K2 hK2 => ?_
      refine j_allocA (zs := [(.int .u64 0), (.int .i64 0), (.int .u64 0), (.slice none 0 0)]) Try.zeroValue80 rfl fun b8 => ?_
      refine j_nil (ej_then (hK2 _ _ (.inr (sub_of [1, 2, 3] rfl)) ?_)); clear hK2 K2
      refine dj_eff rfl fun K2 hK2 => ?_
      refine j_storeN (cs' := [_, _, _, _]) (H' := [_, _, _, _]) 0 rfl rfl rfl rfl Try.sizeOf80 rfl rfl rfl rfl rfl rfl rfl ?_
      refine j_nil (ej_then (hK2 _ _ (.inr (sub_of [1, 2, 3] rfl)) ?_)); clear hK2 K2
      refine dj_end ?_
      refine ej_then (hK11 _ _ _ ?_); clear hK11
      refine CJ.sub (e' := [(1, _), (2, _), (5, _), (7, _), (8, _), (15, _), (16, _), (17, _)]) ⟨rfl, rfl, rfl, rfl, rfl, rfl, rfl, rfl, trivial⟩ ?_
      refine cj_seqF fun K12 hK12 => ?_
      refine cj_reg ?_
      refine j_val rfl (fun a w ha => r_fl (q := 2) (ft := 53) Try.runUnderlying80 rfl Try.sizeOf53 rfl ha) ?_
      refine j_valw rfl (fun a w ha hH hf => r_ldH 0 rfl rfl Try.isAgg53 rfl rfl ha hH) ?_
      refine j_val rfl (fun a w ha => r_build (cs := [(.string ⟨#[]⟩), _, (.int .i64 0), (.int .i64 0), (.int .i64 0)]) bt55 rfl rfl ha) ?_
      refine j_allocA (zs := [(.string ⟨#[]⟩), (.int .u64 0), (.int .i64 0), (.int .i64 0), (.int .i64 0)]) Try.zeroValue55 rfl fun b9 => ?_
      refine j_storeN (cs' := [_, _, _, _, _]) (H' := [_, _, _, _, _]) 0 rfl rfl rfl rfl Try.sizeOf55 rfl rfl rfl rfl rfl rfl rfl ?_
      refine j_nil ?_
      refine ej_then (hK12 _ _ _ ?_); clear hK12
      refine CJ.sub (e' := [(1, _), (2, _), (5, _), (7, _), (8, _), (9, _), (15, _), (16, _), (17, _)]) ⟨rfl, rfl, rfl, rfl, rfl, rfl, rfl, rfl, rfl, trivial⟩ ?_
      refine cj_seqF fun K13 hK13 => ?_
      refine cj_seqF fun K14 hK14 => ?_
      refine cj_reg ?_
      refine j_val rfl (fun a w ha => r_fl (q := 3) (ft := 78) Try.runUnderlying80 rfl Try.sizeOf78 rfl ha) ?_
      refine j_valw rfl (fun a w ha hH hf => r_ldH 1 rfl rfl Try.isAgg78 rfl rfl ha hH) ?_
      refine j_val rfl (fun a w ha => r_len Try.runUnderlying78 rfl ha) ?_
      refine j_val rfl (fun a w ha => r_gtr rfl rfl ha) ?_
      refine j_val rfl (fun a w ha => r_move rfl ha) ?_
      refine j_split (t := 40) rfl (fun hg40 => ?_) (fun hg40 => ?_)
      · have hnl : 0 < x.locs[z.toNat].lines.length := by
          have := of_decide_eq_true hg40; omega
        obtain ⟨nl, rn, hnr⟩ : ∃ n r, x.locs[z.toNat].lines = n :: r := by
          cases hs : x.locs[z.toNat].lines with
          | nil => rw [hs] at hnl; simp at hnl
          | cons z r => exact ⟨z, r, rfl⟩
        obtain ⟨bn, on, csn, rfl, -, hRn, hcelln⟩ := hxn 0 nl (by rw [hnr]; rfl)
        obtain ⟨rfl, -, -⟩ := hRn
        have hfn := hwl.2.2 nl (by rw [hnr]; simp)
        have hlns : lnsOf x.locs[z.toNat] = nl :: rn := by rw [lnsOf, if_neg (by rw [hnr]; simp), hnr]
        refine j_gt rfl rfl ?_
        refine j_val rfl (fun a w ha => r_fl (q := 3) (ft := 78) Try.runUnderlying80 rfl Try.sizeOf78 rfl ha) ?_
        refine j_gt rfl rfl ?_
        refine j_valw rfl (fun a w ha hH hf => r_ldH 1 rfl rfl Try.isAgg78 rfl rfl ha hH) ?_
        refine j_gt rfl rfl ?_
        refine j_val rfl (fun a w ha => r_idxI 0 Try.runUnderlying78 Try.sizeOf82 rfl rfl rfl rfl hnl ha) ?_
        refine j_gt rfl rfl ?_
        refine j_val rfl (fun a w ha => r_fl (q := 0) (ft := 3) Try.runUnderlying82 rfl Try.sizeOf3 rfl ha) ?_
        refine j_gt rfl rfl ?_
        refine j_valw rfl (fun a w ha hH hf => r_load Try.isAgg3 rfl (hcelln w (hf.keepAll (.inr rfl)) 0 _ rfl) ha) ?_
        refine j_gt rfl rfl ?_
        refine j_val rfl (fun a w ha => r_geq rfl rfl ha) ?_
        refine j_val rfl (fun a w ha => r_pick_t rfl rfl ha) ?_
        refine j_nil ?_
        refine ej_then (hK14 _ _ _ ?_); clear hK14
        refine CJ.sub (e' := [(1, _), (2, _), (5, _), (7, _), (8, _), (9, _), (15, _), (16, _), (17, _), (47, _)]) ⟨rfl, rfl, rfl, rfl, rfl, rfl, rfl, rfl, rfl, rfl, trivial⟩ ?_
        refine cj_if rfl (fun h47 => ?_) (fun h47 => ?_)
        · have hfn0 : 0 ≤ nl.fn := of_decide_eq_true h47
          have hfl : nl.fn.toNat < x.funcs.length := by omega
          have hleaf : leafI x x.samples[k] = some ⟨x.funcs[nl.fn.toNat].name, x.locs[z.toNat].addr, x.funcs[nl.fn.toNat].start, nl.line⟩ := by rw [hleaf0]; simp [infos, hlns, niOf, hfn0, hfl]
          obtain ⟨i0, hi0⟩ : ∃ i0 : NI, i0 = ⟨x.funcs[nl.fn.toNat].name, x.locs[z.toNat].addr, x.funcs[nl.fn.toNat].start, nl.line⟩ := ⟨_, rfl⟩
          rw [← hi0] at hleaf
          obtain ⟨bf, of, csf, rfl, hcsf, hRf, hcellf⟩ := hxf nl.fn.toNat x.funcs[nl.fn.toNat] (List.getElem?_eq_getElem hfl)
          obtain ⟨rfl, -⟩ := hRf
          refine cj_seqF fun K15 hK15 => ?_
          refine cj_drawI 11 [(0, true), (1, true), (2, true), (3, true), (4, true), (5, true), (6, true), (7, true), (8, true), (9, false), (10, false)] [0, 1, 2, 3, 4] rfl (by kernel_rfl) (by kernel_rfl) ?_
          refine dj_val rfl rfl (sub_of [0, 1, 2, 3, 4] rfl) (fun a w ha => r_fl (q := 5) (ft := 26) Try.runUnderlying31 rfl Try.sizeOf26 rfl ha) ?_
          refine dj_ld rfl rfl (sub_of [0, 1, 2, 3, 4] rfl) (fun a w ha hS => r_ldS 4 rfl rfl Try.isAgg26 rfl rfl ha hS) ?_
          refine dj_val rfl rfl (sub_of [0, 1, 2, 3, 4] rfl) (fun a w ha => r_fl (q := 3) (ft := 78) Try.runUnderlying80 rfl Try.sizeOf78 rfl ha) ?_
          refine dj_ld rfl rfl (sub_of [0, 1, 2, 3, 4] rfl) (fun a w ha hS => r_ldS 1 rfl rfl Try.isAgg78 rfl rfl ha hS) ?_
          refine dj_val rfl rfl (sub_of [0, 1, 2, 3, 4] rfl) (fun a w ha => r_idxI 0 Try.runUnderlying78 Try.sizeOf82 rfl rfl rfl rfl hnl ha) ?_
          refine dj_val rfl rfl (sub_of [0, 1, 2, 3, 4] rfl) (fun a w ha => r_fl (q := 0) (ft := 3) Try.runUnderlying82 rfl Try.sizeOf3 rfl ha) ?_
          refine dj_ld rfl rfl (sub_of [0, 1, 2, 3, 4] rfl) (fun a w ha hS => r_load Try.isAgg3 rfl (hcelln w (hS.2.keepAll (.inr rfl)) 0 _ rfl) ha) ?_
          refine dj_val rfl rfl (sub_of [0, 1, 2, 3, 4] rfl) (fun a w ha => r_idxI nl.fn.toNat Try.runUnderlying26 Try.sizeOf84 rfl rfl rfl (by omega) hfl ha) ?_
          refine dj_ld rfl rfl (sub_of [0, 1, 2, 3, 4] rfl) (fun a w ha hS => r_loadA Try.isAgg84 Try.sizeOf84 rfl rfl (hcellf w (hS.2.keepAll (.inr rfl))) ha) ?_
          refine dj_eff rfl fun K2 hK2 => ?_
          refine j_allocA (zs := [(.int .u64 0), (.string ⟨#[]⟩), (.string ⟨#[]⟩), (.string ⟨#[]⟩), (.int .i64 0)]) Try.zeroValue84 rfl fun b10 => ?_
          refine j_nil (ej_then (hK2 _ _ (.inr (sub_of [1, 2, 3, 4, 5] rfl)) ?_)); clear hK2 K2
          refine dj_eff rfl fun K2 hK2 => ?_
          refine j_storeN (cs' := [_, _, _, _, _]) (H' := [_, _, _, _, _, _]) 0 rfl rfl rfl rfl Try.sizeOf84 rfl rfl rfl rfl rfl rfl rfl ?_
          refine j_nil (ej_then (hK2 _ _ (.inr (sub_of [1, 2, 3, 4, 5] rfl)) ?_)); clear hK2 K2
          refine dj_end ?_
          refine ej_then (hK15 _ _ _ ?_); clear hK15
          refine CJ.sub (e' := [(1, _), (2, _), (5, _), (7, _), (8, _), (9, _), (10, _), (15, _), (16, _), (17, _)]) ⟨rfl, rfl, rfl, rfl, rfl, rfl, rfl, rfl, rfl, rfl, trivial⟩ ?_
          refine cj_drawI 15 [(0, true), (1, true), (2, true), (3, true), (4, true), (5, true), (6, true), (7, true), (8, true), (9, true), (10, false), (11, true), (12, false), (13, true), (14, false)] [0, 2] rfl (by kernel_rfl) (by kernel_rfl) ?_
          refine dj_val rfl rfl (sub_of [0, 2] rfl) (fun a w ha => r_fl (q := 1) (ft := 9) Try.runUnderlying84 rfl Try.sizeOf9 rfl ha) ?_
          refine dj_ld rfl rfl (sub_of [0, 2] rfl) (fun a w ha hS => r_ldS 0 rfl rfl Try.isAgg9 rfl rfl ha hS) ?_
          refine dj_val rfl rfl (sub_of [0, 2] rfl) (fun a w ha => r_fl (q := 3) (ft := 78) Try.runUnderlying80 rfl Try.sizeOf78 rfl ha) ?_
          refine dj_ld rfl rfl (sub_of [0, 2] rfl) (fun a w ha hS => r_ldS 1 rfl rfl Try.isAgg78 rfl rfl ha hS) ?_
          refine dj_val rfl rfl (sub_of [0, 2] rfl) (fun a w ha => r_idxI 0 Try.runUnderlying78 Try.sizeOf82 rfl rfl rfl rfl hnl ha) ?_
          refine dj_val rfl rfl (sub_of [0, 2] rfl) (fun a w ha => r_fl (q := 1) (ft := 2) Try.runUnderlying82 rfl Try.sizeOf2 rfl ha) ?_
          refine dj_ld rfl rfl (sub_of [0, 2] rfl) (fun a w ha hS => r_load Try.isAgg2 rfl (hcelln w (hS.2.keepAll (.inr rfl)) 1 _ rfl) ha) ?_
          refine dj_val rfl rfl (sub_of [0, 2] rfl) (fun a w ha => r_fl (q := 4) (ft := 2) Try.runUnderlying84 rfl Try.sizeOf2 rfl ha) ?_
          refine dj_ld rfl rfl (sub_of [0, 2] rfl) (fun a w ha hS => r_ldS 0 rfl rfl Try.isAgg2 rfl rfl ha hS) ?_
          refine dj_val rfl rfl (sub_of [0, 2] rfl) (fun a w ha => r_fl (q := 0) (ft := 9) Try.runUnderlying55 rfl Try.sizeOf9 rfl ha) ?_
          refine dj_eff rfl fun K2 hK2 => ?_
          refine j_storeN (cs' := [_, _, _, _, _]) (H' := [_, _, _, _, _, _]) 1 rfl rfl rfl rfl Try.sizeOf9 rfl rfl rfl rfl rfl rfl rfl ?_
          refine j_nil (ej_then (hK2 _ _ (.inr (sub_of [0, 2] rfl)) ?_)); clear hK2 K2
          refine dj_val rfl rfl (sub_of [0, 2] rfl) (fun a w ha => r_fl (q := 2) (ft := 3) Try.runUnderlying55 rfl Try.sizeOf3 rfl ha) ?_
          refine dj_eff rfl fun K2 hK2 => ?_
          refine j_storeN (cs' := [_, _, _, _, _]) (H' := [_, _, _, _, _, _]) 1 rfl rfl rfl rfl Try.sizeOf3 rfl rfl rfl rfl rfl rfl rfl ?_
          refine j_nil (ej_then (hK2 _ _ (.inr (sub_of [0, 2] rfl)) ?_)); clear hK2 K2
          refine dj_val rfl rfl (sub_of [0, 2] rfl) (fun a w ha => r_fl (q := 3) (ft := 3) Try.runUnderlying55 rfl Try.sizeOf3 rfl ha) ?_
          refine dj_eff rfl fun K2 hK2 => ?_
          refine j_storeN (cs' := [_, _, _, _, _]) (H' := [_, _, _, _, _, _]) 1 rfl rfl rfl rfl Try.sizeOf3 rfl rfl rfl rfl rfl rfl rfl ?_
          refine j_nil (ej_then (hK2 _ _ (.inr (sub_of [0, 2] rfl)) ?_)); clear hK2 K2
          refine dj_end ?_
          refine ej_then (hK13 _ _ _ ?_); clear hK13
          refine CJ.sub (e' := [(1, _), (2, _), (5, _), (7, _), (9, _), (15, _), (16, _), (17, _)]) ⟨rfl, rfl, rfl, rfl, rfl, rfl, rfl, rfl, trivial⟩ ?_
          have hTa : ∀ w' : World, w'.heap[b13]? = some (Obj.map es.toArray ck) → MapHas encFK b13 (fkOf i0 0) (.int .i64 0) (.int .i64 (flS x kv k i0)) w' := fun w' hH => ⟨ms, es, ck, hH, hM, hSM.getD _⟩
          refine cj_drawT 11 [(0, true), (1, true), (2, true), (3, true), (4, true), (5, true), (6, true), (7, true), (8, true), (9, false), (10, true), (11, false)] [1, 3] rfl (MapHas encFK b13 (fkOf i0 0) (.int .i64 0) (.int .i64 (flS x kv k i0))) (by kernel_rfl) (by kernel_rfl) ?_
          refine dj_valT rfl rfl (sub_of [1, 3] rfl) (fun w hH hf => by first | exact hTb w (hH.obj (i := 3) rfl rfl) | exact hTb w (hH.obj (i := 4) rfl rfl) | exact hTa w (hH.obj (i := 3) rfl rfl) | exact hTa w (hH.obj (i := 4) rfl rfl)) (fun a w ha => r_move rfl ha) ?_
          refine dj_ldT rfl rfl (sub_of [1, 3] rfl) (fun w hH hf => by first | exact hTb w (hH.obj (i := 3) rfl rfl) | exact hTb w (hH.obj (i := 4) rfl rfl) | exact hTa w (hH.obj (i := 3) rfl rfl) | exact hTa w (hH.obj (i := 4) rfl rfl)) (fun a w ha hS => r_ldSA (vs := [_, _, _, _, _]) 0 rfl rfl Try.isAgg55 Try.sizeOf55 rfl rfl rfl ha hS) ?_
          first
          | refine dj_lkT rfl rfl (sub_of [1, 3] rfl) (fun w hH hf => hTa w (hH.obj (i := 4) rfl rfl)) (fun a w ha hT => r_lookT (k := fkOf i0 0) Try.runUnderlying36 keyFK Try.zeroValue2 rfl (by rw [hi0]; rfl) ha hT) ?_
          | refine dj_lkT rfl rfl (sub_of [0, 2] rfl) (fun w hH hf => hTa w (hH.obj (i := 3) rfl rfl)) (fun a w ha hT => r_lookT (k := fkOf i0 0) Try.runUnderlying36 keyFK Try.zeroValue2 rfl (by rw [hi0]; rfl) ha hT) ?_
          refine dj_valT rfl rfl (sub_of [1, 3] rfl) (fun w hH hf => by first | exact hTb w (hH.obj (i := 3) rfl rfl) | exact hTb w (hH.obj (i := 4) rfl rfl) | exact hTa w (hH.obj (i := 3) rfl rfl) | exact hTa w (hH.obj (i := 4) rfl rfl)) (fun a w ha => r_fl (q := 1) (ft := 47) Try.runUnderlying51 rfl Try.sizeOf47 rfl ha) ?_
          refine dj_ldT rfl rfl (sub_of [1, 3] rfl) (fun w hH hf => by first | exact hTb w (hH.obj (i := 3) rfl rfl) | exact hTb w (hH.obj (i := 4) rfl rfl) | exact hTa w (hH.obj (i := 3) rfl rfl) | exact hTa w (hH.obj (i := 4) rfl rfl)) (fun a w ha hS => r_ldS 1 rfl rfl Try.isAgg47 rfl rfl ha hS) ?_
          refine dj_valT rfl rfl (sub_of [1, 3] rfl) (fun w hH hf => by first | exact hTb w (hH.obj (i := 3) rfl rfl) | exact hTb w (hH.obj (i := 4) rfl rfl) | exact hTa w (hH.obj (i := 3) rfl rfl) | exact hTa w (hH.obj (i := 4) rfl rfl)) (fun a w ha => r_move rfl ha) ?_
          refine dj_valT rfl rfl (sub_of [1, 3] rfl) (fun w hH hf => by first | exact hTb w (hH.obj (i := 3) rfl rfl) | exact hTb w (hH.obj (i := 4) rfl rfl) | exact hTa w (hH.obj (i := 3) rfl rfl) | exact hTa w (hH.obj (i := 4) rfl rfl)) (fun a w ha => r_idx Try.runUnderlying47 Try.sizeOf2 rfl rfl (by omega) ha) ?_
          refine dj_ldT rfl rfl (sub_of [1, 3] rfl) (fun w hH hf => by first | exact hTb w (hH.obj (i := 3) rfl rfl) | exact hTb w (hH.obj (i := 4) rfl rfl) | exact hTa w (hH.obj (i := 3) rfl rfl) | exact hTa w (hH.obj (i := 4) rfl rfl)) (fun a w ha hS => r_load Try.isAgg2 rfl (hcell2 w (hS.2.keepAll (.inr rfl)) 0 _ rfl) ha) ?_
          refine dj_valT rfl rfl (sub_of [1, 3] rfl) (fun w hH hf => by first | exact hTb w (hH.obj (i := 3) rfl rfl) | exact hTb w (hH.obj (i := 4) rfl rfl) | exact hTa w (hH.obj (i := 3) rfl rfl) | exact hTa w (hH.obj (i := 4) rfl rfl)) (fun a w ha => r_add rfl rfl ha) ?_
          refine dj_effW rfl fun K2 hK2 => ?_
          first
          | refine j_mapentry (k := fkOf i0 0) 4 rfl Try.runUnderlying36 keyFK hM Try.zeroValue2 rfl (by rw [hi0]; rfl) (fun _ _ _ => ⟨fun _ _ => trivial, trivial⟩) rfl fun es1 ck1 j1 s1 hM1 hmx1 hfi1 => ?_
          | refine j_mapentry (k := fkOf i0 0) 3 rfl Try.runUnderlying36 keyFK hM Try.zeroValue2 rfl (by rw [hi0]; rfl) (fun _ _ _ => ⟨fun _ _ => trivial, trivial⟩) rfl fun es1 ck1 j1 s1 hM1 hmx1 hfi1 => ?_
          have hTb : ∀ w' : World, w'.heap[b13]? = some (Obj.map es1.toArray ck1) → MapHas encFK b13 (fkOf i0 0) (.int .i64 0) (.int .i64 (flS x kv k i0)) w' := fun w' hH => ⟨_, es1, ck1, hH, hM1, by rw [mget_mset, if_pos rfl]; exact hSM.getD _⟩
          refine j_nil (ej_then (hK2 _ _ (.inr ⟨(sub_of [1, 3] rfl), (fun w hH hf => by first | exact hTb w (hH.obj (i := 3) rfl rfl) | exact hTb w (hH.obj (i := 4) rfl rfl) | exact hTa w (hH.obj (i := 3) rfl rfl) | exact hTa w (hH.obj (i := 4) rfl rfl))⟩) ?_)); clear hK2 K2
          refine dj_valT rfl rfl (sub_of [1, 3] rfl) (fun w hH hf => by first | exact hTb w (hH.obj (i := 3) rfl rfl) | exact hTb w (hH.obj (i := 4) rfl rfl) | exact hTa w (hH.obj (i := 3) rfl rfl) | exact hTa w (hH.obj (i := 4) rfl rfl)) (fun a w ha => r_extract rfl rfl ha) ?_
          refine dj_effW rfl fun K2 hK2 => ?_
          first
          | refine j_entrystoreI 4 rfl hM1 hmx1 hfi1 rfl rfl rfl fun es2 hM2 => ?_
          | refine j_entrystoreI 3 rfl hM1 hmx1 hfi1 rfl rfl rfl fun es2 hM2 => ?_
          refine j_nil (ej_then (hK2 _ _ (.inl rfl) ?_)); clear hK2 K2
          refine djt_end ?_
          refine ej_blk (ej_then (hK7 _ _ _ ?_)); clear hK7
          refine CJ.sub (e' := [(1, _), (2, _), (5, _), (15, _), (16, _), (17, _)]) ⟨rfl, rfl, rfl, rfl, rfl, rfl, trivial⟩ ?_
          refine cj_reg ?_
          refine j_val rfl (fun a w ha => r_inc (by omega) rfl rfl ha) ?_
          refine j_val rfl (fun a w ha => r_move rfl ha) ?_
          refine j_nil ?_
          refine ej_then ?_
          first
          | exact fun w' hH hf => hKL (k + 1, ms, es, ck) _ w' ⟨hk', hM, hSM.skip hk' hleaf⟩ hf hH.2.2.2 (by simp only; omega) ⟨rfl, rfl, rfl, rfl, rfl, rfl, trivial⟩
          | exact fun w' hH hf => hKL (k + 1, _, es2, ck1) _ w' ⟨hk', by rw [mset_mset] at hM2; exact hM2, by have := hSM.step hk' hM.keys hleaf; rw [hvd] at this; exact this⟩ hf hH.2.2.2.2.2.2.2.2.2 (by simp only; omega) ⟨rfl, rfl, rfl, rfl, rfl, rfl, trivial⟩
          | exact fun w' hH hf => hKL (k + 1, _, es2, ck1) _ w' ⟨hk', by rw [mset_mset] at hM2; exact hM2, by have := hSM.step hk' hM.keys hleaf; rw [hvd] at this; exact this⟩ hf hH.2.2.2.2.2.2.2.2.2.2.2.2 (by simp only; omega) ⟨rfl, rfl, rfl, rfl, rfl, rfl, trivial⟩
        · first
            | (have hfn0 : ¬ 0 ≤ nl.fn := of_decide_eq_false h47
               have hleaf : leafI x x.samples[k] = some ⟨⟨#[]⟩, x.locs[z.toNat].addr, 0, 0⟩ := by rw [hleaf0]; simp [infos, hlns, niOf, hfn0]
               obtain ⟨i0, hi0⟩ : ∃ i0 : NI, i0 = ⟨⟨#[]⟩, x.locs[z.toNat].addr, 0, 0⟩ := ⟨_, rfl⟩
               rw [← hi0] at hleaf)
            | skip
          refine cj_skip (ej_then (hK13 _ _ _ ?_)); clear hK13
          refine CJ.sub (e' := [(1, _), (2, _), (5, _), (7, _), (9, _), (15, _), (16, _), (17, _)]) ⟨rfl, rfl, rfl, rfl, rfl, rfl, rfl, rfl, trivial⟩ ?_
          have hTa : ∀ w' : World, w'.heap[b13]? = some (Obj.map es.toArray ck) → MapHas encFK b13 (fkOf i0 0) (.int .i64 0) (.int .i64 (flS x kv k i0)) w' := fun w' hH => ⟨ms, es, ck, hH, hM, hSM.getD _⟩
          refine cj_drawT 11 [(0, true), (1, true), (2, true), (3, true), (4, true), (5, true), (6, true), (7, true), (8, true), (9, false), (10, true), (11, false)] [0, 2] rfl (MapHas encFK b13 (fkOf i0 0) (.int .i64 0) (.int .i64 (flS x kv k i0))) (by kernel_rfl) (by kernel_rfl) ?_
          refine dj_valT rfl rfl (sub_of [0, 2] rfl) (fun w hH hf => by first | exact hTb w (hH.obj (i := 3) rfl rfl) | exact hTb w (hH.obj (i := 4) rfl rfl) | exact hTa w (hH.obj (i := 3) rfl rfl) | exact hTa w (hH.obj (i := 4) rfl rfl)) (fun a w ha => r_move rfl ha) ?_
          refine dj_ldT rfl rfl (sub_of [0, 2] rfl) (fun w hH hf => by first | exact hTb w (hH.obj (i := 3) rfl rfl) | exact hTb w (hH.obj (i := 4) rfl rfl) | exact hTa w (hH.obj (i := 3) rfl rfl) | exact hTa w (hH.obj (i := 4) rfl rfl)) (fun a w ha hS => r_ldSA (vs := [_, _, _, _, _]) 0 rfl rfl Try.isAgg55 Try.sizeOf55 rfl rfl rfl ha hS) ?_
          first
          | refine dj_lkT rfl rfl (sub_of [1, 3] rfl) (fun w hH hf => hTa w (hH.obj (i := 4) rfl rfl)) (fun a w ha hT => r_lookT (k := fkOf i0 0) Try.runUnderlying36 keyFK Try.zeroValue2 rfl (by rw [hi0]; rfl) ha hT) ?_
          | refine dj_lkT rfl rfl (sub_of [0, 2] rfl) (fun w hH hf => hTa w (hH.obj (i := 3) rfl rfl)) (fun a w ha hT => r_lookT (k := fkOf i0 0) Try.runUnderlying36 keyFK Try.zeroValue2 rfl (by rw [hi0]; rfl) ha hT) ?_
          refine dj_valT rfl rfl (sub_of [0, 2] rfl) (fun w hH hf => by first | exact hTb w (hH.obj (i := 3) rfl rfl) | exact hTb w (hH.obj (i := 4) rfl rfl) | exact hTa w (hH.obj (i := 3) rfl rfl) | exact hTa w (hH.obj (i := 4) rfl rfl)) (fun a w ha => r_fl (q := 1) (ft := 47) Try.runUnderlying51 rfl Try.sizeOf47 rfl ha) ?_
          refine dj_ldT rfl rfl (sub_of [0, 2] rfl) (fun w hH hf => by first | exact hTb w (hH.obj (i := 3) rfl rfl) | exact hTb w (hH.obj (i := 4) rfl rfl) | exact hTa w (hH.obj (i := 3) rfl rfl) | exact hTa w (hH.obj (i := 4) rfl rfl)) (fun a w ha hS => r_ldS 1 rfl rfl Try.isAgg47 rfl rfl ha hS) ?_
          refine dj_valT rfl rfl (sub_of [0, 2] rfl) (fun w hH hf => by first | exact hTb w (hH.obj (i := 3) rfl rfl) | exact hTb w (hH.obj (i := 4) rfl rfl) | exact hTa w (hH.obj (i := 3) rfl rfl) | exact hTa w (hH.obj (i := 4) rfl rfl)) (fun a w ha => r_move rfl ha) ?_
          refine dj_valT rfl rfl (sub_of [0, 2] rfl) (fun w hH hf => by first | exact hTb w (hH.obj (i := 3) rfl rfl) | exact hTb w (hH.obj (i := 4) rfl rfl) | exact hTa w (hH.obj (i := 3) rfl rfl) | exact hTa w (hH.obj (i := 4) rfl rfl)) (fun a w ha => r_idx Try.runUnderlying47 Try.sizeOf2 rfl rfl (by omega) ha) ?_
          refine dj_ldT rfl rfl (sub_of [0, 2] rfl) (fun w hH hf => by first | exact hTb w (hH.obj (i := 3) rfl rfl) | exact hTb w (hH.obj (i := 4) rfl rfl) | exact hTa w (hH.obj (i := 3) rfl rfl) | exact hTa w (hH.obj (i := 4) rfl rfl)) (fun a w ha hS => r_load Try.isAgg2 rfl (hcell2 w (hS.2.keepAll (.inr rfl)) 0 _ rfl) ha) ?_
          refine dj_valT rfl rfl (sub_of [0, 2] rfl) (fun w hH hf => by first | exact hTb w (hH.obj (i := 3) rfl rfl) | exact hTb w (hH.obj (i := 4) rfl rfl) | exact hTa w (hH.obj (i := 3) rfl rfl) | exact hTa w (hH.obj (i := 4) rfl rfl)) (fun a w ha => r_add rfl rfl ha) ?_
          refine dj_effW rfl fun K2 hK2 => ?_
          first
          | refine j_mapentry (k := fkOf i0 0) 4 rfl Try.runUnderlying36 keyFK hM Try.zeroValue2 rfl (by rw [hi0]; rfl) (fun _ _ _ => ⟨fun _ _ => trivial, trivial⟩) rfl fun es1 ck1 j1 s1 hM1 hmx1 hfi1 => ?_
          | refine j_mapentry (k := fkOf i0 0) 3 rfl Try.runUnderlying36 keyFK hM Try.zeroValue2 rfl (by rw [hi0]; rfl) (fun _ _ _ => ⟨fun _ _ => trivial, trivial⟩) rfl fun es1 ck1 j1 s1 hM1 hmx1 hfi1 => ?_
          have hTb : ∀ w' : World, w'.heap[b13]? = some (Obj.map es1.toArray ck1) → MapHas encFK b13 (fkOf i0 0) (.int .i64 0) (.int .i64 (flS x kv k i0)) w' := fun w' hH => ⟨_, es1, ck1, hH, hM1, by rw [mget_mset, if_pos rfl]; exact hSM.getD _⟩
          refine j_nil (ej_then (hK2 _ _ (.inr ⟨(sub_of [0, 2] rfl), (fun w hH hf => by first | exact hTb w (hH.obj (i := 3) rfl rfl) | exact hTb w (hH.obj (i := 4) rfl rfl) | exact hTa w (hH.obj (i := 3) rfl rfl) | exact hTa w (hH.obj (i := 4) rfl rfl))⟩) ?_)); clear hK2 K2
          refine dj_valT rfl rfl (sub_of [0, 2] rfl) (fun w hH hf => by first | exact hTb w (hH.obj (i := 3) rfl rfl) | exact hTb w (hH.obj (i := 4) rfl rfl) | exact hTa w (hH.obj (i := 3) rfl rfl) | exact hTa w (hH.obj (i := 4) rfl rfl)) (fun a w ha => r_extract rfl rfl ha) ?_
          refine dj_effW rfl fun K2 hK2 => ?_
          first
          | refine j_entrystoreI 4 rfl hM1 hmx1 hfi1 rfl rfl rfl fun es2 hM2 => ?_
          | refine j_entrystoreI 3 rfl hM1 hmx1 hfi1 rfl rfl rfl fun es2 hM2 => ?_
          refine j_nil (ej_then (hK2 _ _ (.inl rfl) ?_)); clear hK2 K2
          refine djt_end ?_
          refine ej_blk (ej_then (hK7 _ _ _ ?_)); clear hK7
          refine CJ.sub (e' := [(1, _), (2, _), (5, _), (15, _), (16, _), (17, _)]) ⟨rfl, rfl, rfl, rfl, rfl, rfl, trivial⟩ ?_
          refine cj_reg ?_
          refine j_val rfl (fun a w ha => r_inc (by omega) rfl rfl ha) ?_
          refine j_val rfl (fun a w ha => r_move rfl ha) ?_
          refine j_nil ?_
          refine ej_then ?_
          first
          | exact fun w' hH hf => hKL (k + 1, ms, es, ck) _ w' ⟨hk', hM, hSM.skip hk' hleaf⟩ hf hH.2.2.2 (by simp only; omega) ⟨rfl, rfl, rfl, rfl, rfl, rfl, trivial⟩
          | exact fun w' hH hf => hKL (k + 1, _, es2, ck1) _ w' ⟨hk', by rw [mset_mset] at hM2; exact hM2, by have := hSM.step hk' hM.keys hleaf; rw [hvd] at this; exact this⟩ hf hH.2.2.2.2.2.2.2.2.2 (by simp only; omega) ⟨rfl, rfl, rfl, rfl, rfl, rfl, trivial⟩
          | exact fun w' hH hf => hKL (k + 1, _, es2, ck1) _ w' ⟨hk', by rw [mset_mset] at hM2; exact hM2, by have := hSM.step hk' hM.keys hleaf; rw [hvd] at this; exact this⟩ hf hH.2.2.2.2.2.2.2.2.2.2.2.2 (by simp only; omega) ⟨rfl, rfl, rfl, rfl, rfl, rfl, trivial⟩
      · have hnl : x.locs[z.toNat].lines = [] := List.eq_nil_of_length_eq_zero (by have := of_decide_eq_false hg40; omega)
        have hleaf : leafI x x.samples[k] = some ⟨⟨#[]⟩, x.locs[z.toNat].addr, 0, 0⟩ := by rw [hleaf0]; simp [infos, lnsOf, hnl, niOf]
        obtain ⟨i0, hi0⟩ : ∃ i0 : NI, i0 = ⟨⟨#[]⟩, x.locs[z.toNat].addr, 0, 0⟩ := ⟨_, rfl⟩
        rw [← hi0] at hleaf
        refine j_gf rfl rfl rfl rfl ?_
        refine j_gf rfl rfl rfl rfl ?_
        refine j_gf rfl rfl rfl rfl ?_
        refine j_gf rfl rfl rfl rfl ?_
        refine j_gf rfl rfl rfl rfl ?_
        refine j_gf rfl rfl rfl rfl ?_
        refine j_val rfl (fun a w ha => r_pick_f rfl rfl ha) ?_
        refine j_nil ?_
        refine ej_then (hK14 _ _ _ ?_); clear hK14
        refine CJ.sub (e' := [(1, _), (2, _), (5, _), (7, _), (8, _), (9, _), (15, _), (16, _), (17, _), (47, _)]) ⟨rfl, rfl, rfl, rfl, rfl, rfl, rfl, rfl, rfl, rfl, trivial⟩ ?_
        refine cj_if_f rfl ?_
        first
          | (have hfn0 : ¬ 0 ≤ nl.fn := of_decide_eq_false h47
             have hleaf : leafI x x.samples[k] = some ⟨⟨#[]⟩, x.locs[z.toNat].addr, 0, 0⟩ := by rw [hleaf0]; simp [infos, hlns, niOf, hfn0]
             obtain ⟨i0, hi0⟩ : ∃ i0 : NI, i0 = ⟨⟨#[]⟩, x.locs[z.toNat].addr, 0, 0⟩ := ⟨_, rfl⟩
             rw [← hi0] at hleaf)
          | skip
        refine cj_skip (ej_then (hK13 _ _ _ ?_)); clear hK13
        refine CJ.sub (e' := [(1, _), (2, _), (5, _), (7, _), (9, _), (15, _), (16, _), (17, _)]) ⟨rfl, rfl, rfl, rfl, rfl, rfl, rfl, rfl, trivial⟩ ?_
        have hTa : ∀ w' : World, w'.heap[b13]? = some (Obj.map es.toArray ck) → MapHas encFK b13 (fkOf i0 0) (.int .i64 0) (.int .i64 (flS x kv k i0)) w' := fun w' hH => ⟨ms, es, ck, hH, hM, hSM.getD _⟩
        refine cj_drawT 11 [(0, true), (1, true), (2, true), (3, true), (4, true), (5, true), (6, true), (7, true), (8, true), (9, false), (10, true), (11, false)] [0, 2] rfl (MapHas encFK b13 (fkOf i0 0) (.int .i64 0) (.int .i64 (flS x kv k i0))) (by kernel_rfl) (by kernel_rfl) ?_
        refine dj_valT rfl rfl (sub_of [0, 2] rfl) (fun w hH hf => by first | exact hTb w (hH.obj (i := 3) rfl rfl) | exact hTb w (hH.obj (i := 4) rfl rfl) | exact hTa w (hH.obj (i := 3) rfl rfl) | exact hTa w (hH.obj (i := 4) rfl rfl)) (fun a w ha => r_move rfl ha) ?_
        refine dj_ldT rfl rfl (sub_of [0, 2] rfl) (fun w hH hf => by first | exact hTb w (hH.obj (i := 3) rfl rfl) | exact hTb w (hH.obj (i := 4) rfl rfl) | exact hTa w (hH.obj (i := 3) rfl rfl) | exact hTa w (hH.obj (i := 4) rfl rfl)) (fun a w ha hS => r_ldSA (vs := [_, _, _, _, _]) 0 rfl rfl Try.isAgg55 Try.sizeOf55 rfl rfl rfl ha hS) ?_
        first
        | refine dj_lkT rfl rfl (sub_of [1, 3] rfl) (fun w hH hf => hTa w (hH.obj (i := 4) rfl rfl)) (fun a w ha hT => r_lookT (k := fkOf i0 0) Try.runUnderlying36 keyFK Try.zeroValue2 rfl (by rw [hi0]; rfl) ha hT) ?_
        | refine dj_lkT rfl rfl (sub_of [0, 2] rfl) (fun w hH hf => hTa w (hH.obj (i := 3) rfl rfl)) (fun a w ha hT => r_lookT (k := fkOf i0 0) Try.runUnderlying36 keyFK Try.zeroValue2 rfl (by rw [hi0]; rfl) ha hT) ?_
        refine dj_valT rfl rfl (sub_of [0, 2] rfl) (fun w hH hf => by first | exact hTb w (hH.obj (i := 3) rfl rfl) | exact hTb w (hH.obj (i := 4) rfl rfl) | exact hTa w (hH.obj (i := 3) rfl rfl) | exact hTa w (hH.obj (i := 4) rfl rfl)) (fun a w ha => r_fl (q := 1) (ft := 47) Try.runUnderlying51 rfl Try.sizeOf47 rfl ha) ?_
        refine dj_ldT rfl rfl (sub_of [0, 2] rfl) (fun w hH hf => by first | exact hTb w (hH.obj (i := 3) rfl rfl) | exact hTb w (hH.obj (i := 4) rfl rfl) | exact hTa w (hH.obj (i := 3) rfl rfl) | exact hTa w (hH.obj (i := 4) rfl rfl)) (fun a w ha hS => r_ldS 1 rfl rfl Try.isAgg47 rfl rfl ha hS) ?_
        refine dj_valT rfl rfl (sub_of [0, 2] rfl) (fun w hH hf => by first | exact hTb w (hH.obj (i := 3) rfl rfl) | exact hTb w (hH.obj (i := 4) rfl rfl) | exact hTa w (hH.obj (i := 3) rfl rfl) | exact hTa w (hH.obj (i := 4) rfl rfl)) (fun a w ha => r_move rfl ha) ?_
        refine dj_valT rfl rfl (sub_of [0, 2] rfl) (fun w hH hf => by first | exact hTb w (hH.obj (i := 3) rfl rfl) | exact hTb w (hH.obj (i := 4) rfl rfl) | exact hTa w (hH.obj (i := 3) rfl rfl) | exact hTa w (hH.obj (i := 4) rfl rfl)) (fun a w ha => r_idx Try.runUnderlying47 Try.sizeOf2 rfl rfl (by omega) ha) ?_
        refine dj_ldT rfl rfl (sub_of [0, 2] rfl) (fun w hH hf => by first | exact hTb w (hH.obj (i := 3) rfl rfl) | exact hTb w (hH.obj (i := 4) rfl rfl) | exact hTa w (hH.obj (i := 3) rfl rfl) | exact hTa w (hH.obj (i := 4) rfl rfl)) (fun a w ha hS => r_load Try.isAgg2 rfl (hcell2 w (hS.2.keepAll (.inr rfl)) 0 _ rfl) ha) ?_
        refine dj_valT rfl rfl (sub_of [0, 2] rfl) (fun w hH hf => by first | exact hTb w (hH.obj (i := 3) rfl rfl) | exact hTb w (hH.obj (i := 4) rfl rfl) | exact hTa w (hH.obj (i := 3) rfl rfl) | exact hTa w (hH.obj (i := 4) rfl rfl)) (fun a w ha => r_add rfl rfl ha) ?_
        refine dj_effW rfl fun K2 hK2 => ?_
        first
        | refine j_mapentry (k := fkOf i0 0) 4 rfl Try.runUnderlying36 keyFK hM Try.zeroValue2 rfl (by rw [hi0]; rfl) (fun _ _ _ => ⟨fun _ _ => trivial, trivial⟩) rfl fun es1 ck1 j1 s1 hM1 hmx1 hfi1 => ?_
        | refine j_mapentry (k := fkOf i0 0) 3 rfl Try.runUnderlying36 keyFK hM Try.zeroValue2 rfl (by rw [hi0]; rfl) (fun _ _ _ => ⟨fun _ _ => trivial, trivial⟩) rfl fun es1 ck1 j1 s1 hM1 hmx1 hfi1 => ?_
        have hTb : ∀ w' : World, w'.heap[b13]? = some (Obj.map es1.toArray ck1) → MapHas encFK b13 (fkOf i0 0) (.int .i64 0) (.int .i64 (flS x kv k i0)) w' := fun w' hH => ⟨_, es1, ck1, hH, hM1, by rw [mget_mset, if_pos rfl]; exact hSM.getD _⟩
        refine j_nil (ej_then (hK2 _ _ (.inr ⟨(sub_of [0, 2] rfl), (fun w hH hf => by first | exact hTb w (hH.obj (i := 3) rfl rfl) | exact hTb w (hH.obj (i := 4) rfl rfl) | exact hTa w (hH.obj (i := 3) rfl rfl) | exact hTa w (hH.obj (i := 4) rfl rfl))⟩) ?_)); clear hK2 K2
        refine dj_valT rfl rfl (sub_of [0, 2] rfl) (fun w hH hf => by first | exact hTb w (hH.obj (i := 3) rfl rfl) | exact hTb w (hH.obj (i := 4) rfl rfl) | exact hTa w (hH.obj (i := 3) rfl rfl) | exact hTa w (hH.obj (i := 4) rfl rfl)) (fun a w ha => r_extract rfl rfl ha) ?_
        refine dj_effW rfl fun K2 hK2 => ?_
        first
        | refine j_entrystoreI 4 rfl hM1 hmx1 hfi1 rfl rfl rfl fun es2 hM2 => ?_
        | refine j_entrystoreI 3 rfl hM1 hmx1 hfi1 rfl rfl rfl fun es2 hM2 => ?_
        refine j_nil (ej_then (hK2 _ _ (.inl rfl) ?_)); clear hK2 K2
        refine djt_end ?_
        refine ej_blk (ej_then (hK7 _ _ _ ?_)); clear hK7
        refine CJ.sub (e' := [(1, _), (2, _), (5, _), (15, _), (16, _), (17, _)]) ⟨rfl, rfl, rfl, rfl, rfl, rfl, trivial⟩ ?_
        refine cj_reg ?_
        refine j_val rfl (fun a w ha => r_inc (by omega) rfl rfl ha) ?_
        refine j_val rfl (fun a w ha => r_move rfl ha) ?_
        refine j_nil ?_
        refine ej_then ?_
        first
        | exact fun w' hH hf => hKL (k + 1, ms, es, ck) _ w' ⟨hk', hM, hSM.skip hk' hleaf⟩ hf hH.2.2.2 (by simp only; omega) ⟨rfl, rfl, rfl, rfl, rfl, rfl, trivial⟩
        | exact fun w' hH hf => hKL (k + 1, _, es2, ck1) _ w' ⟨hk', by rw [mset_mset] at hM2; exact hM2, by have := hSM.step hk' hM.keys hleaf; rw [hvd] at this; exact this⟩ hf hH.2.2.2.2.2.2.2.2.2 (by simp only; omega) ⟨rfl, rfl, rfl, rfl, rfl, rfl, trivial⟩
        | exact fun w' hH hf => hKL (k + 1, _, es2, ck1) _ w' ⟨hk', by rw [mset_mset] at hM2; exact hM2, by have := hSM.step hk' hM.keys hleaf; rw [hvd] at this; exact this⟩ hf hH.2.2.2.2.2.2.2.2.2.2.2.2 (by simp only; omega) ⟨rfl, rfl, rfl, rfl, rfl, rfl, trivial⟩
  · have hke : k = x.samples.length := by omega
    subst hke
    refine cj_exit (ej_then_exit (ej_then_exit (ej_blk_hit (ej_then (hK3 _ _ _ ?_))))); clear hK3
    refine CJ.sub (e' := [(5, _)]) ⟨rfl, trivial⟩ ?_
    refine cj_seqF fun K16 hK16 => ?_
    refine cj_seqF fun K17 hK17 => ?_
    refine cj_reg ?_
    refine j_val rfl (fun a w ha => r_move rfl ha) ?_
    refine j_range 0 rfl Try.runUnderlying36 rfl rfl fun b82 => ?_
    refine j_nil ?_
    refine ej_then (hK17 _ _ _ ?_); clear hK17
    refine CJ.sub (e' := [(5, _), (82, _)]) ⟨rfl, rfl, trivial⟩ ?_
    refine cj_block ?_
    -- LOOP 1 live [5, 82]
    refine cj_loop (σ := List Nat × List MapEntry × List (FK × Value) × List MapEntry) (fun _ => [(5, .map (some b13)), (82, ptr b82)])
      (fun s => [itE b82 b13 ck s.1 ck, mpE b13 s.2.2.2 ck, ⟨b2, 31, [la, .string x.deflt, .slice ps x.samples.length csm, lm, .slice pl x.locs.length cl, .slice pf x.funcs.length cf, lcm, .string x.drop, .string x.keep, .int .i64 x.time, .int .i64 x.dur, .int .i64 x.period, .string x.per.ty, .string x.per.unit], true, true, none⟩])
      (fun s _ => Vis es s.2.1 s.1 ∧ MEnc encFK s.2.2.1 s.2.2.2 ck ∧ s.2.2.2.Sublist es ∧ (∀ p ∈ s.2.2.1, p ∈ ms) ∧ (∀ p ∈ ms, p.2 ≠ .int .i64 0 → p ∈ s.2.2.1) ∧ ∀ y ∈ s.2.2.2, y.born ∈ s.1 → y.val ≠ .int .i64 0) (fun s => es.length - s.1.length)
      ([], [], ms, es) ⟨rfl, rfl, trivial⟩ (fun w' hH hf => ⟨hH, Vis.nil, hM, List.Sublist.refl _, fun _ h => h, fun _ h _ => h, by simp⟩) ?_
    rintro ⟨seen, xs, ms', es'⟩ w2 ⟨hV, hM', hsub, hin, hout, hne⟩ hf2 hH2 KL2 hKL2
    have hV : Vis es xs seen := hV
    have hM' : MEnc encFK ms' es' ck := hM'
    have hsub : es'.Sublist es := hsub
    have hin : ∀ p ∈ ms', p ∈ ms := hin
    have hout : ∀ p ∈ ms, p.2 ≠ .int .i64 0 → p ∈ ms' := hout
    have hne : ∀ y ∈ es', y.born ∈ seen → y.val ≠ .int .i64 0 := hne
    refine C.begin _ _ hf2 hH2 ?_
    refine cj_seqF fun K18 hK18 => ?_
    refine cj_reg ?_
    refine j_next 0 1 rfl rfl hM'.lt (Nat.le_refl _) rfl rfl (fun hall => ?_) (fun xe hxe hns => ?_)
    · refine j_val rfl (fun a w ha => r_extract rfl rfl ha) ?_
      refine j_nil ?_
      refine ej_then (hK18 _ _ _ ?_); clear hK18
      refine CJ.sub (e' := [(5, _), (82, _), (84, _)]) ⟨rfl, rfl, rfl, trivial⟩ ?_
      refine cj_seqF fun K19 hK19 => ?_
      refine cj_if_f rfl ?_
      refine cj_exit (ej_then_exit (ej_then_exit (ej_blk_hit (ej_then (hK16 _ _ _ ?_))))); clear hK16
      refine CJ.sub (e' := [(5, _)]) ⟨rfl, trivial⟩ ?_
      refine cj_seqF fun K20 hK20 => ?_
      refine cj_reg ?_
      refine j_val rfl (fun a w ha => r_move rfl ha) ?_
      refine j_val rfl (fun a w ha => r_assign rfl ha) ?_
      refine j_nil ?_
      refine ej_then (hK20 _ _ _ ?_); clear hK20
      refine CJ.sub (e' := [(4, _)]) ⟨rfl, trivial⟩ ?_
      refine cj_ret (?_)
      refine ej_ret1 Try.results8 rfl fun w' hH hf => ⟨⟨b13, ms', es', ck, rfl, hH.obj (i := 1) rfl rfl, hM', fun p hp => ?_, fun i hi => ?_⟩, hf⟩
      · obtain ⟨i, rfl⟩ := hSM.key p (hin p hp)
        refine ⟨i, rfl, fun h0 => ?_⟩
        have h1 : ∃ y ∈ es', y.val = .int .i64 (flS x kv x.samples.length i) := by
          have h2 : (encFK (fkOf i 0), Value.int .i64 (flS x kv x.samples.length i)) ∈ es'.map fun x => (x.key, x.val) := by rw [hM'.kv]; exact List.mem_map.2 ⟨_, hp, rfl⟩
          obtain ⟨y, hy, he⟩ := List.mem_map.1 h2
          injection he with _ he
          exact ⟨y, hy, he⟩
        obtain ⟨y, hy, hv⟩ := h1
        refine hne y hy (hall y hy) ?_
        rw [hv, h0]
      · refine mget_of_mem hM'.keys (hout _ ?_ ?_)
        · rcases hSM.get i with h1 | ⟨-, h1⟩
          · exact mget_mem h1
          · exact absurd h1 hi
        · intro he
          injection he with _ he
          exact hi he
    · refine j_val rfl (fun a w ha => r_extract rfl rfl ha) ?_
      refine j_nil ?_
      refine ej_then (hK18 _ _ _ ?_); clear hK18
      refine CJ.sub (e' := [(5, _), (82, _), (84, _)]) ⟨rfl, rfl, rfl, trivial⟩ ?_
      refine cj_seqF fun K21 hK21 => ?_
      refine cj_if_t rfl ?_
      obtain ⟨qe, hqe, hqk, hqv⟩ := menc_entry hM' hxe
      obtain ⟨ie, hie⟩ := hSM.key qe (hin qe hqe)
      subst hie
      generalize hve : flS x kv x.samples.length ie = ve
      have hqk : xe.key = encFK (fkOf ie 0) := hqk
      have hqv : xe.val = .int .i64 ve := by rw [← hve]; exact hqv
      refine cj_skip (ej_then (hK21 _ _ _ ?_)); clear hK21
      refine CJ.sub (e' := [(5, _), (82, _)]) ⟨rfl, rfl, trivial⟩ ?_
      refine cj_block ?_
      refine cj_seqF fun K22 hK22 => ?_
      refine cj_reg ?_
      refine j_valw rfl (fun a w ha hH hf => r_entry 0 1 rfl rfl rfl hxe hM'.born ha hH) ?_
      refine j_val rfl (fun a w ha => r_extract rfl rfl ha) ?_
      refine j_eqv hqk ?_
      refine j_val rfl (fun a w ha => r_extract rfl rfl ha) ?_
      refine j_eqv hqv ?_
      refine j_allocA (zs := [(.string ⟨#[]⟩), (.int .u64 0), (.int .i64 0), (.int .i64 0), (.int .i64 0)]) Try.zeroValue55 rfl fun b11 => ?_
      refine j_storeN (cs' := [_, _, _, _, _]) (H' := [_, _, _, _]) 0 rfl rfl rfl rfl Try.sizeOf55 rfl rfl rfl rfl rfl rfl rfl ?_
      refine j_val rfl (fun a w ha => r_assign rfl ha) ?_
      refine j_nil ?_
      refine ej_then (hK22 _ _ _ ?_); clear hK22
      refine CJ.sub (e' := [(5, _), (11, _), (12, _), (82, _)]) ⟨rfl, rfl, rfl, rfl, trivial⟩ ?_
      refine cj_seqF fun K23 hK23 => ?_
      refine cj_reg ?_
      refine j_val rfl (fun a w ha => r_move rfl ha) ?_
      refine j_val rfl (fun a w ha => r_eql rfl rfl ha) ?_
      refine j_nil ?_
      refine ej_then (hK23 _ _ _ ?_); clear hK23
      refine CJ.sub (e' := [(5, _), (11, _), (82, _), (89, _)]) ⟨rfl, rfl, rfl, rfl, trivial⟩ ?_
      refine cj_dec rfl (fun h89 => ?_) (fun h89 => ?_)
      · refine cj_reg ?_
        refine j_val rfl (fun a w ha => r_move rfl ha) ?_
        refine j_valw rfl (fun a w ha hH hf => r_ldA (vs := [_, _, _, _, _]) 0 rfl rfl Try.isAgg55 Try.sizeOf55 rfl rfl rfl ha hH) ?_
        refine j_delete0 (k := fkOf ie 0) 2 rfl Try.runUnderlying36 keyFK hM' rfl rfl (fun _ _ _ => ⟨fun _ _ => trivial, trivial⟩) fun es3 hM3 hs3 => ?_
        refine j_nil ?_
        refine ej_blk (ej_then ?_)
        have hlt : seen.length < es.length := by
          have := (hV.push (hsub.subset hxe) hns).len hM.born
          simp at this; omega
        first
          | exact fun w' hH hf => hKL2 (seen ++ [xe.born], xs ++ [xe], ms', es') _ w' ⟨hV.push (hsub.subset hxe) hns, hM', hsub, hin, hout, fun y hy hb => by
              rcases List.mem_append.1 hb with hb | hb
              · exact hne y hy hb
              · simp at hb
                have hyx : y = xe := born_eq hM'.born hy hxe hb
                rw [hyx, hqv]
                intro he
                injection he with _ he
                exact h89 he⟩ hf hH.2.2.2 (by simp only [List.length_append, List.length_singleton]; omega) ⟨rfl, rfl, trivial⟩
          | exact fun w' hH hf => hKL2 (seen ++ [xe.born], xs ++ [xe], mdel ms' (fkOf ie 0), es3) _ w' ⟨hV.push (hsub.subset hxe) hns, hM3, hs3.trans hsub, fun p hp => hin p (List.mem_filter.1 hp).1, fun p hp hp2 => List.mem_filter.2 ⟨hout p hp hp2, by
              simp only [ne_eq, decide_not, Bool.not_eq_true', decide_eq_false_iff_not]
              intro he
              obtain ⟨j, rfl⟩ := hSM.key p hp
              have := (fkOf_inj he).1
              subst this
              rw [hve, h89] at hp2
              exact hp2 rfl⟩, fun y hy hb => by
              rcases List.mem_append.1 hb with hb | hb
              · exact hne y (hs3.subset hy) hb
              · simp at hb
                have hyx : y = xe := born_eq hM'.born (hs3.subset hy) hxe hb
                subst hyx
                obtain ⟨q3, hq3, hk3, -⟩ := menc_entry hM3 hy
                rw [hqk] at hk3
                have := encFK_inj hk3
                exact absurd this.symm (by simpa using (List.mem_filter.1 hq3).2)⟩ hf hH.2.2.2 (by simp only [List.length_append, List.length_singleton]; omega) ⟨rfl, rfl, trivial⟩
      · refine cj_skip (ej_blk (ej_then ?_))
        have hlt : seen.length < es.length := by
          have := (hV.push (hsub.subset hxe) hns).len hM.born
          simp at this; omega
        first
          | exact fun w' hH hf => hKL2 (seen ++ [xe.born], xs ++ [xe], ms', es') _ w' ⟨hV.push (hsub.subset hxe) hns, hM', hsub, hin, hout, fun y hy hb => by
              rcases List.mem_append.1 hb with hb | hb
              · exact hne y hy hb
              · simp at hb
                have hyx : y = xe := born_eq hM'.born hy hxe hb
                rw [hyx, hqv]
                intro he
                injection he with _ he
                exact h89 he⟩ hf hH.2.2.2 (by simp only [List.length_append, List.length_singleton]; omega) ⟨rfl, rfl, trivial⟩
          | exact fun w' hH hf => hKL2 (seen ++ [xe.born], xs ++ [xe], mdel ms' (fkOf ie 0), es3) _ w' ⟨hV.push (hsub.subset hxe) hns, hM3, hs3.trans hsub, fun p hp => hin p (List.mem_filter.1 hp).1, fun p hp hp2 => List.mem_filter.2 ⟨hout p hp hp2, by
              simp only [ne_eq, decide_not, Bool.not_eq_true', decide_eq_false_iff_not]
              intro he
              obtain ⟨j, rfl⟩ := hSM.key p hp
              have := (fkOf_inj he).1
              subst this
              rw [hve, h89] at hp2
              exact hp2 rfl⟩, fun y hy hb => by
              rcases List.mem_append.1 hb with hb | hb
              · exact hne y (hs3.subset hy) hb
              · simp at hb
                have hyx : y = xe := born_eq hM'.born (hs3.subset hy) hxe hb
                subst hyx
                obtain ⟨q3, hq3, hk3, -⟩ := menc_entry hM3 hy
                rw [hqk] at hk3
                have := encFK_inj hk3
                exact absurd this.symm (by simpa using (List.mem_filter.1 hq3).2)⟩ hf hH.2.2.2 (by simp only [List.length_append, List.length_singleton]; omega) ⟨rfl, rfl, trivial⟩
end Go.Proofs.Ytgjpegehmbebpaa
