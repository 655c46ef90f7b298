/-
  The list of the graph's nodes, and those that a graph keeps. Conditions: as each lemma states them.
-/
import Derived.Test.YtgjpegehmbebpaaLm
import Derived.Test.YtgjpegehmbebpaaFwM
import Derived.Test.YtgjpegehmbebpaaOf
namespace Go.Proofs.Ytgjpegehmbebpaa
open Go Go.Fw Go.Proofs
theorem nodup_len : ∀ {l m : List Nat}, l.Nodup → (∀ x ∈ l, x ∈ m) → l.length ≤ m.length
  | [], _, _, _ => Nat.zero_le _
  | a :: r, m, h, hs => by
    have h1 := List.nodup_cons.1 h
    have ha : a ∈ m := hs a (by simp)
    have := nodup_len (l := r) (m := m.erase a) h1.2 fun x hx => (List.mem_erase_of_ne (by rintro rfl; exact h1.1 hx)).2 (hs x (by simp [hx]))
    rw [List.length_erase_of_mem ha] at this
    have := List.length_pos_of_mem ha
    simp only [List.length_cons]
    omega
/-- entries visited: all different, all of the map -/
structure Vis (es xs : List MapEntry) (seen : List Nat) : Prop where
  sn : xs.map (·.born) = seen
  nd : seen.Nodup
  sub : ∀ x ∈ xs, x ∈ es
theorem Vis.nil {es : List MapEntry} : Vis es [] [] := ⟨rfl, by simp, by simp⟩
theorem Vis.push {es xs : List MapEntry} {seen : List Nat} {x : MapEntry} (h : Vis es xs seen) (hx : x ∈ es) (hn : x.born ∉ seen) : Vis es (xs ++ [x]) (seen ++ [x.born]) :=
  ⟨by simp [h.sn], by rw [List.nodup_append]; exact ⟨h.nd, by simp, by simp; intro a ha he; subst he; exact hn ha⟩, fun y hy => by
    rcases List.mem_append.1 hy with hy | hy
    · exact h.sub y hy
    · simp at hy; subst hy; exact hx⟩
theorem Vis.len {es xs : List MapEntry} {seen : List Nat} (h : Vis es xs seen) (hb : (es.map (·.born)).Nodup) : seen.length ≤ es.length := by
  have h1 : seen ⊆ es.map (·.born) := by
    intro b hb'
    rw [← h.sn] at hb'
    obtain ⟨x, hx, rfl⟩ := List.mem_map.1 hb'
    exact List.mem_map.2 ⟨x, h.sub x hx, rfl⟩
  have := nodup_len h.nd fun x hx => h1 hx
  simpa using this
theorem born_inj {es : List MapEntry} (hb : (es.map (·.born)).Nodup) {x y : MapEntry} (hx : x ∈ es) (hy : y ∈ es) (h : x.born = y.born) : x = y := by
  induction es with
  | nil => cases hx
  | cons a r ih =>
    simp only [List.map_cons, List.nodup_cons] at hb
    rcases List.mem_cons.1 hx with hxa | hx
    · rcases List.mem_cons.1 hy with hya | hy
      · rw [hxa, hya]
      · exact absurd (List.mem_map.2 ⟨y, hy, by rw [← h, hxa]⟩) hb.1
    · rcases List.mem_cons.1 hy with hya | hy
      · exact absurd (List.mem_map.2 ⟨x, hx, by rw [h, hya]⟩) hb.1
      · exact ih hb.2 hx hy
theorem map_inj_of_nodup {α β : Type} {g : α → β} : ∀ {es : List α}, (es.map g).Nodup → ∀ {x y : α}, x ∈ es → y ∈ es → g x = g y → x = y
  | [], _, _, _, hx, _, _ => by cases hx
  | a :: r, hb, x, y, hx, hy, h => by
    simp only [List.map_cons, List.nodup_cons] at hb
    rcases List.mem_cons.1 hx with hxa | hx
    · rcases List.mem_cons.1 hy with hya | hy
      · rw [hxa, hya]
      · exact absurd (List.mem_map.2 ⟨y, hy, by rw [← h, hxa]⟩) hb.1
    · rcases List.mem_cons.1 hy with hya | hy
      · exact absurd (List.mem_map.2 ⟨x, hx, by rw [h, hya]⟩) hb.1
      · exact map_inj_of_nodup hb.2 hx hy h
theorem nodup_map_on {α β : Type} {g : α → β} : ∀ {xs : List α}, xs.Nodup → (∀ x ∈ xs, ∀ y ∈ xs, g x = g y → x = y) → (xs.map g).Nodup
  | [], _, _ => by simp
  | a :: r, h, hi => by
    have h1 := List.nodup_cons.1 h
    simp only [List.map_cons, List.nodup_cons]
    refine ⟨fun hm => ?_, nodup_map_on h1.2 fun x hx y hy => hi x (by simp [hx]) y (by simp [hy])⟩
    obtain ⟨y, hy, he⟩ := List.mem_map.1 hm
    rw [hi y (by simp [hy]) a (by simp) he] at hy
    exact h1.1 hy
theorem nodup_of_map {α β : Type} {g : α → β} : ∀ {xs : List α}, (xs.map g).Nodup → xs.Nodup
  | [], _ => by simp
  | a :: r, h => by
    simp only [List.map_cons, List.nodup_cons] at h ⊢
    exact ⟨fun hm => h.1 (List.mem_map.2 ⟨a, hm, rfl⟩), nodup_of_map h.2⟩
def valBlock : Value → Nat
  | .pointer (some a) => a.block
  | _ => 0
/-- all of them -/
theorem Vis.all {es xs : List MapEntry} {seen : List Nat} (h : Vis es xs seen) (hb : (es.map (·.born)).Nodup) (ha : ∀ x ∈ es, x.born ∈ seen) : ∀ x ∈ es, x ∈ xs := by
  intro x hx
  have := ha x hx
  rw [← h.sn] at this
  obtain ⟨y, hy, he⟩ := List.mem_map.1 this
  rw [← born_inj hb (h.sub y hy) hx he]; exact hy

/-- an owned slice whose row is new since w0 -/
def OSF (w0 : World) (T sz : Nat) (w : World) (v : Value) (xs : List Value) : Prop := ∃ y p l c, v = .slice p l c ∧ Own T sz y p l c xs ∧ (y.on = true → Blk w y.b T y.cs ∧ w0.heap.size ≤ y.b)
theorem OSF.os {w0 : World} {T sz : Nat} {w : World} {v : Value} {xs : List Value} (h : OSF w0 T sz w v xs) : OS T sz w v xs := by
  obtain ⟨y, p, l, c, h1, h2, h3⟩ := h
  exact ⟨y, p, l, c, h1, h2, fun ho => (h3 ho).1⟩
theorem own_osF {w0 : World} {T sz l c B : Nat} {W : List Nat} {y : Ent} {p : Option Addr} {xs : List Value} (h : Own T sz y p l c xs) {w : World} {H : Heap} {i : Nat} (hH : Hp ⟨w0, B, W⟩ w H) (hy : H[i]? = some y) (hT : W.all (fun t => !Nat.beq t T) = true) : OSF w0 T sz w (.slice p l c) xs :=
  ⟨y, p, l, c, rfl, h, fun ho => by
    have h1 := hH.get hy ho
    rw [h.hT] at h1
    refine ⟨h1, ?_⟩
    rcases hH.may (List.mem_of_getElem? hy) ho h.hw with h2 | ⟨-, h2⟩
    · exact h2
    · rw [h.hT] at h2; exact absurd h2 (not_mem_of_all hT)⟩
theorem Own.make {T sz b c : Nat} {cs : List Value} (h : cs.length = c * sz) : Own T sz ⟨b, T, cs, true, true, none⟩ (some ⟨b, 0, none⟩) 0 c [] := ⟨rfl, rfl, rfl, by simp, Nat.zero_le _, .inl ⟨rfl, rfl, ⟨cs, rfl⟩, h⟩⟩
theorem menc_entry {κ : Type} [DecidableEq κ] {enc : κ → Value} {ms : List (κ × Value)} {es : List MapEntry} {ck : Nat} (h : MEnc enc ms es ck) {x : MapEntry} (hx : x ∈ es) : ∃ p ∈ ms, x.key = enc p.1 ∧ x.val = p.2 := by
  have h1 : (x.key, x.val) ∈ es.map (fun x => (x.key, x.val)) := List.mem_map.2 ⟨x, hx, rfl⟩
  rw [h.kv] at h1
  obtain ⟨p, hp, he⟩ := List.mem_map.1 h1
  injection he with e1 e2
  exact ⟨p, hp, e1.symm, e2.symm⟩
theorem nodes_c (B : Nat) (w : World) (mb : Nat) (ns : List (NI × Nat)) (hn : NM B w mb ns) (hlen : ns.length ≤ 1000000) :
    Calls Try.prog 40 #[.map (some mb)] w (Ret fun v w' => (∃ bs : List Nat, OSF w pNode 1 w' v (bs.map ptr) ∧ bs.Nodup ∧ ∀ b, b ∈ bs ↔ b ∈ ns.map (·.2)) ∧ Fr 0 [] w w') := by
  obtain ⟨es, ck, hmb, hM⟩ := hn.map
  have hel : es.length = ns.length := by have := hM.length; simpa using this
  refine startJ (args := [_]) [(0, _)] 0 [1000000] _ Try.func40 rfl Try.ntmps40 rfl rfl (Hp.oneMap hmb (Nat.zero_le _) rfl) ?_
  refine cj_seqF fun K1 hK1 => ?_
  refine cj_reg ?_
  refine j_val rfl (fun a w ha => r_assign rfl ha) ?_
  refine j_nil ?_
  refine ej_then (hK1 _ _ _ ?_); clear hK1
  refine CJ.sub (e' := [(0, _)]) ⟨rfl, trivial⟩ ?_
  refine cj_seqF fun K2 hK2 => ?_
  refine cj_reg ?_
  refine j_val rfl (fun a w ha => r_move rfl ha) ?_
  refine j_valw rfl (fun a w ha hH hf => r_mlen 0 rfl Try.runUnderlying145 rfl ha hH) ?_
  refine j_make (l := 0) Try.runUnderlying68 el71 rfl rfl rfl (Nat.zero_le _) (by omega) rfl fun b8 cs8 hcs8 _ => ?_
  refine j_val rfl (fun a w ha => r_assign rfl ha) ?_
  refine j_nil ?_
  refine ej_then (hK2 _ _ _ ?_); clear hK2
  refine CJ.sub (e' := [(0, _), (3, _)]) ⟨rfl, rfl, trivial⟩ ?_
  refine cj_seqF fun K3 hK3 => ?_
  refine cj_seqF fun K4 hK4 => ?_
  refine cj_reg ?_
  refine j_val rfl (fun a w ha => r_move rfl ha) ?_
  refine j_range 1 rfl Try.runUnderlying145 rfl rfl fun b10 => ?_
  refine j_nil ?_
  refine ej_then (hK4 _ _ _ ?_); clear hK4
  refine CJ.sub (e' := [(3, _), (10, _)]) ⟨rfl, rfl, trivial⟩ ?_
  refine cj_block ?_
  -- LOOP 0 live [3, 10]
  refine cj_loop (σ := List Nat × List MapEntry × Ent × Option Addr × Nat) (fun s => [(3, .slice s.2.2.2.1 s.2.1.length s.2.2.2.2), (10, ptr b10)])
    (fun s => itE b10 mb ck s.1 ck :: s.2.2.1 :: mpE mb es ck :: restH w [mb]) (fun s _ => Vis es s.2.1 s.1 ∧ Own pNode 1 s.2.2.1 s.2.2.2.1 s.2.1.length s.2.2.2.2 (s.2.1.map (·.val))) (fun s => es.length - s.1.length)
    ([], [], _, _, _) ⟨rfl, rfl, trivial⟩ (fun w' hH hf => ⟨hH, Vis.nil, Own.make hcs8⟩) ?_
  rintro ⟨seen, xs, y, p, c⟩ w1 ⟨hV, hO⟩ hf1 hH1 KL hKL
  have hV : Vis es xs seen := hV
  have hO : Own pNode 1 y p xs.length c (xs.map (·.val)) := hO
  have hxl : xs.length = seen.length := by have := congrArg List.length hV.sn; simpa using this
  have hsl := hV.len hM.born
  refine C.begin _ (itE b10 mb ck seen ck :: y :: mpE mb es ck :: restH w [mb]) hf1 hH1 ?_
  refine CJ.sub (e' := [(3, .slice p xs.length c), (10, _)]) ⟨rfl, rfl, trivial⟩ ?_
  refine cj_seqF fun K5 hK5 => ?_
  refine cj_reg ?_
  refine j_next 0 2 rfl rfl hM.lt (Nat.le_refl _) rfl rfl (fun hall => ?_) (fun xe hxe hns => ?_)
  · refine j_val rfl (fun a w ha => r_extract rfl rfl ha) ?_
    refine j_nil ?_
    refine ej_then (hK5 _ _ _ ?_); clear hK5
    refine CJ.sub (e' := [(3, _), (10, _), (12, _)]) ⟨rfl, rfl, rfl, trivial⟩ ?_
    refine cj_seqF fun K6 hK6 => ?_
    refine cj_if_f rfl ?_
    refine cj_exit (ej_then_exit (ej_then_exit (ej_blk_hit (ej_then (hK3 _ _ _ ?_))))); clear hK3
    refine CJ.sub (e' := [(3, _)]) ⟨rfl, trivial⟩ ?_
    refine cj_seqF fun K7 hK7 => ?_
    refine cj_reg ?_
    refine j_val rfl (fun a w ha => r_move rfl ha) ?_
    refine j_val rfl (fun a w ha => r_assign rfl ha) ?_
    refine j_nil ?_
    refine ej_then (hK7 _ _ _ ?_); clear hK7
    refine CJ.sub (e' := [(2, _)]) ⟨rfl, trivial⟩ ?_
    refine cj_ret (?_)
    exact ej_ret1 Try.results40 rfl fun w' hH hf => by
      have hfr := quietMap (x := y) (Hp.drop 0 hH) hf hmb
      have hval : ∀ x ∈ es, ∃ q ∈ ns, x.val = ptr q.2 := fun x hx => by
        obtain ⟨q, hq, -, hqv⟩ := menc_entry hM hx
        obtain ⟨q2, hq2, rfl⟩ := List.mem_map.1 hq
        exact ⟨q2, hq2, hqv⟩
      have hvb : es.map (fun x => valBlock x.val) = ns.map (·.2) := by
        have h1 := congrArg (List.map fun z : Value × Value => valBlock z.2) hM.kv
        simpa [Function.comp_def, valBlock] using h1
      have hnd : (es.map fun x => valBlock x.val).Nodup := by rw [hvb]; exact hn.nd
      have hxs : xs.map (·.val) = (xs.map fun x => valBlock x.val).map ptr := by
        rw [List.map_map]
        refine List.map_congr_left fun x hx => ?_
        obtain ⟨q, -, hq⟩ := hval x (hV.sub x hx)
        simp [hq, valBlock]
      refine ⟨⟨xs.map fun x => valBlock x.val, by rw [← hxs]; exact own_osF hO hH (i := 1) rfl rfl, nodup_map_on (nodup_of_map (g := (·.born)) (by rw [hV.sn]; exact hV.nd)) fun x hx y hy h => map_inj_of_nodup hnd (hV.sub x hx) (hV.sub y hy) h, fun b => ?_⟩, hfr⟩
      rw [← hvb]
      exact ⟨fun h => by obtain ⟨x, hx, rfl⟩ := List.mem_map.1 h; exact List.mem_map.2 ⟨x, hV.sub x hx, rfl⟩, fun h => by obtain ⟨x, hx, rfl⟩ := List.mem_map.1 h; exact List.mem_map.2 ⟨x, hV.all hM.born hall x hx, rfl⟩⟩
  · refine j_val rfl (fun a w ha => r_extract rfl rfl ha) ?_
    refine j_nil ?_
    refine ej_then (hK5 _ _ _ ?_); clear hK5
    refine CJ.sub (e' := [(3, _), (10, _), (12, _)]) ⟨rfl, rfl, rfl, trivial⟩ ?_
    refine cj_seqF fun K8 hK8 => ?_
    refine cj_if_t rfl ?_
    refine cj_skip (ej_then (hK8 _ _ _ ?_)); clear hK8
    refine CJ.sub (e' := [(3, _), (10, _)]) ⟨rfl, rfl, trivial⟩ ?_
    refine cj_block ?_
    refine cj_seqF fun K9 hK9 => ?_
    refine cj_reg ?_
    refine j_valw rfl (fun a w ha hH hf => r_entry 0 2 rfl rfl rfl hxe hM.born ha hH) ?_
    refine j_val rfl (fun a w ha => r_extract rfl rfl ha) ?_
    obtain ⟨q, hq, -, hqv⟩ := menc_entry hM hxe
    obtain ⟨q2, hq2, rfl⟩ := List.mem_map.1 hq
    simp only at hqv
    refine j_eqv hqv ?_
    refine j_val rfl (fun a w ha => r_assign rfl ha) ?_
    refine j_nil ?_
    refine ej_then (hK9 _ _ _ ?_); clear hK9
    refine CJ.sub (e' := [(3, _), (5, _), (10, _)]) ⟨rfl, rfl, rfl, trivial⟩ ?_
    refine cj_reg ?_
    refine j_val rfl (fun a w ha => r_move rfl ha) ?_
    refine j_val rfl (fun a w ha => r_move rfl ha) ?_
    refine j_bslice1 Try.runUnderlying68 Try.sizeOf71 Try.zeroValue71 rfl rfl rfl rfl rfl fun b17 => ?_
    refine j_appO 1 rfl hO Try.runUnderlying68 el71 rfl rfl rfl rfl rfl (by omega) rfl fun y18 p18 c18 hO18 => ?_
    refine j_val rfl (fun a w ha => r_assign rfl ha) ?_
    refine j_nil ?_
    refine ej_blk (ej_then ?_)
    have hlt : seen.length < es.length := by
      have := (hV.push hxe hns).len hM.born
      simp at this; omega
    exact fun w' hH hf => hKL (seen ++ [xe.born], xs ++ [xe], y18, p18, c18) _ w' ⟨hV.push hxe hns, by have h : Own pNode 1 y18 p18 (xs.length + 1) c18 (xs.map (·.val) ++ [ptr q2.2]) := hO18; simpa [hqv] using h⟩ hf hH (by simp only [List.length_append, List.length_singleton]; omega) ⟨by simp only [List.length_append, List.length_singleton]; rfl, rfl, trivial⟩

abbrev tGraph : Nat := 70
theorem select_c (B N : Nat) (w : World) (v : Value) (bs : List Nat) (fl : Nat → Int) (hv : OS pNode 1 w v (bs.map ptr)) (hlen : bs.length ≤ 1000000) (hnd : bs.Nodup) (hn : ∀ b ∈ bs, ∃ i cu, NodeAt B N w b i (fl b) cu) :
    Calls Try.prog 31 #[v, .bool false] w (Ret fun u w' => (∃ (g : Nat) (v' : Value) (bs' : List Nat), u = ptr g ∧ Blk w' g tGraph [v'] ∧ OS pNode 1 w' v' (bs'.map ptr) ∧ bs'.Nodup ∧ bs'.length ≤ bs.length ∧ (∀ b ∈ bs', b ∈ bs) ∧ ∀ b ∈ bs, fl b ≠ 0 → b ∈ bs') ∧ Fr 0 [] w w') := by
  obtain ⟨p, l, c, rfl, hl, hlc, hcs⟩ := hv.open
  have hl : bs.length = l := by simpa using hl
  subst hl
  refine startJ (args := [_, _]) [(0, _), (1, _)] 0 [] [] Try.func31 rfl Try.ntmps31 rfl rfl .nil ?_
  refine cj_seqF fun K1 hK1 => ?_
  refine cj_reg ?_
  refine j_val rfl (fun a w ha => r_assign rfl ha) ?_
  refine j_nil ?_
  refine ej_then (hK1 _ _ _ ?_); clear hK1
  refine CJ.sub (e' := [(0, _), (1, _)]) ⟨rfl, rfl, trivial⟩ ?_
  refine cj_seqF fun K2 hK2 => ?_
  refine cj_reg ?_
  refine j_val rfl (fun a w ha => r_move rfl ha) ?_
  refine j_val rfl (fun a w ha => r_len Try.runUnderlying68 rfl ha) ?_
  refine j_make (l := 0) Try.runUnderlying68 el71 rfl rfl rfl (Nat.zero_le _) (by omega) rfl fun b10 cs10 hcs10 _ => ?_
  refine j_val rfl (fun a w ha => r_assign rfl ha) ?_
  refine j_nil ?_
  refine ej_then (hK2 _ _ _ ?_); clear hK2
  refine CJ.sub (e' := [(0, _), (1, _), (5, _)]) ⟨rfl, rfl, rfl, trivial⟩ ?_
  refine cj_seqF fun K3 hK3 => ?_
  refine cj_seqF fun K4 hK4 => ?_
  refine cj_reg ?_
  refine j_val rfl (fun a w ha => r_move rfl ha) ?_
  refine j_val rfl (fun a w ha => r_len Try.runUnderlying68 rfl ha) ?_
  refine j_val rfl (fun a w ha => r_move rfl ha) ?_
  refine j_nil ?_
  refine ej_then (hK4 _ _ _ ?_); clear hK4
  refine CJ.sub (e' := [(1, _), (5, _), (11, _), (12, _), (13, _)]) ⟨rfl, rfl, rfl, rfl, rfl, trivial⟩ ?_
  refine cj_block ?_
  -- LOOP 0 live [1, 5, 11, 12, 13]
  refine cj_loop (σ := Nat × List Nat × Ent × Option Addr × Nat) (fun s => [(1, .bool false), (5, .slice s.2.2.2.1 s.2.1.length s.2.2.2.2), (11, .slice p bs.length c), (12, .int .i64 (bs.length : Nat)), (13, .int .i64 (s.1 : Nat))])
    (fun s => [s.2.2.1]) (fun s _ => s.1 ≤ bs.length ∧ Own pNode 1 s.2.2.1 s.2.2.2.1 s.2.1.length s.2.2.2.2 (s.2.1.map ptr) ∧ s.2.1.Sublist (bs.take s.1) ∧ ∀ b ∈ bs.take s.1, fl b ≠ 0 → b ∈ s.2.1) (fun s => bs.length - s.1)
    (0, [], _, _, _) ⟨rfl, rfl, rfl, rfl, rfl, trivial⟩ (fun w' hH hf => ⟨hH, Nat.zero_le _, Own.make hcs10, by simp, by simp⟩) ?_
  rintro ⟨k, xs, y, q, cc⟩ w1 ⟨hk, hO, hsub, hall⟩ hf1 hH1 KL hKL
  have hk : k ≤ bs.length := hk
  have hO : Own pNode 1 y q xs.length cc (xs.map ptr) := hO
  have hsub : xs.Sublist (bs.take k) := hsub
  have hall : ∀ b ∈ bs.take k, fl b ≠ 0 → b ∈ xs := hall
  have hxl : xs.length ≤ k := by have := hsub.length_le; simp at this; omega
  refine C.begin _ [y] hf1 hH1 ?_
  refine CJ.sub (e' := [(1, _), (5, .slice q xs.length cc), (11, _), (12, _), (13, .int .i64 (k : Nat))]) ⟨rfl, rfl, rfl, rfl, rfl, trivial⟩ ?_
  refine cj_seqF fun K5 hK5 => ?_
  refine cj_reg ?_
  refine j_val rfl (fun a w ha => r_lss rfl rfl ha) ?_
  refine j_nil ?_
  refine ej_then (hK5 _ _ _ ?_); clear hK5
  refine CJ.sub (e' := [(1, _), (5, _), (11, _), (12, _), (13, _), (14, _)]) ⟨rfl, rfl, rfl, rfl, rfl, rfl, trivial⟩ ?_
  refine cj_seqF fun K6 hK6 => ?_
  refine cj_dec rfl (fun h14 => ?_) (fun h14 => ?_)
  · have hk' : k < bs.length := by omega
    obtain ⟨b, rfl, hcell0⟩ := hcs (by omega)
    have hcell : ∀ w', Keep w w' → ∀ (j : Nat) (u : Value), [ptr bs[k]][j]? = some u → w'.cell? ⟨b, 0 + k * 1 + j, none⟩ = some u := fun w' kp j u hu => by
      cases j with
      | zero => simp at hu; subst hu; simpa using hcell0 w' kp k (ptr bs[k]) (by simp [hk'])
      | succ j => simp at hu
    obtain ⟨i, cu, hnode⟩ := hn bs[k] (List.getElem_mem hk')
    obtain ⟨fn, fd, cd, ein, eout, hb, -, -⟩ := hnode.ex
    have hcn := blk_cells hb
    refine cj_skip (ej_then (hK6 _ _ _ ?_)); clear hK6
    refine CJ.sub (e' := [(1, _), (5, _), (11, _), (12, _), (13, _)]) ⟨rfl, rfl, rfl, rfl, rfl, trivial⟩ ?_
    refine cj_seqF fun K7 hK7 => ?_
    refine cj_block ?_
    refine cj_seqF fun K8 hK8 => ?_
    refine cj_reg ?_
    refine j_val rfl (fun a w ha => r_idx Try.runUnderlying68 Try.sizeOf71 rfl rfl (by omega) ha) ?_
    refine j_valw rfl (fun a w ha hH hf => r_load Try.isAgg71 rfl (hcell w (hf.keepAll (.inr rfl)) 0 _ rfl) ha) ?_
    refine j_val rfl (fun a w ha => r_assign rfl ha) ?_
    refine j_nil ?_
    refine ej_then (hK8 _ _ _ ?_); clear hK8
    refine CJ.sub (e' := [(1, _), (5, _), (7, _), (11, _), (12, _), (13, _)]) ⟨rfl, rfl, rfl, rfl, rfl, rfl, trivial⟩ ?_
    refine cj_seqF fun K9 hK9 => ?_
    refine cj_seqF fun K10 hK10 => ?_
    refine cj_reg ?_
    refine j_val rfl (fun a w ha => r_move rfl ha) ?_
    refine j_val rfl (fun a w ha => r_pneql Try.underlying71 rfl ha) ?_
    refine j_nil ?_
    refine ej_then (hK10 _ _ _ ?_); clear hK10
    refine CJ.sub (e' := [(1, _), (5, _), (7, _), (11, _), (12, _), (13, _), (18, _)]) ⟨rfl, rfl, rfl, rfl, rfl, rfl, rfl, trivial⟩ ?_
    refine cj_if_f rfl ?_
    refine cj_skip (ej_then (hK9 _ _ _ ?_)); clear hK9
    refine CJ.sub (e' := [(1, _), (5, _), (7, _), (11, _), (12, _), (13, _)]) ⟨rfl, rfl, rfl, rfl, rfl, rfl, trivial⟩ ?_
    refine cj_seqF fun K11 hK11 => ?_
    refine cj_seqF fun K12 hK12 => ?_
    refine cj_reg ?_
    refine j_val rfl (fun a w ha => r_move rfl ha) ?_
    refine j_val rfl (fun a w ha => r_nil rfl ha) ?_
    refine j_val rfl (fun a w ha => r_fl (q := 7) (ft := 2) Try.runUnderlying77 rfl Try.sizeOf2 rfl ha) ?_
    refine j_valw rfl (fun a w ha hH hf => r_load Try.isAgg2 rfl (hcn w (hf.keepAll (.inr rfl)) 7 _ rfl) ha) ?_
    refine j_val rfl (fun a w ha => r_eql rfl rfl ha) ?_
    refine j_val rfl (fun a w ha => r_move rfl ha) ?_
    refine j_split (t := 24) rfl (fun hg24 => ?_) (fun hg24 => ?_)
    · refine j_gt rfl rfl ?_
      refine j_val rfl (fun a w ha => r_move rfl ha) ?_
      refine j_gt rfl rfl ?_
      refine j_val rfl (fun a w ha => r_nil rfl ha) ?_
      refine j_gt rfl rfl ?_
      refine j_val rfl (fun a w ha => r_fl (q := 5) (ft := 2) Try.runUnderlying77 rfl Try.sizeOf2 rfl ha) ?_
      refine j_gt rfl rfl ?_
      refine j_valw rfl (fun a w ha hH hf => r_load Try.isAgg2 rfl (hcn w (hf.keepAll (.inr rfl)) 5 _ rfl) ha) ?_
      refine j_gt rfl rfl ?_
      refine j_val rfl (fun a w ha => r_eql rfl rfl ha) ?_
      refine j_val rfl (fun a w ha => r_pick_t rfl rfl ha) ?_
      refine j_nil ?_
      refine ej_then (hK12 _ _ _ ?_); clear hK12
      refine CJ.sub (e' := [(1, _), (5, _), (7, _), (11, _), (12, _), (13, _), (30, _)]) ⟨rfl, rfl, rfl, rfl, rfl, rfl, rfl, trivial⟩ ?_
      refine cj_if rfl (fun h30 => ?_) (fun h30 => ?_)
      · refine cj_exit (ej_then_exit (ej_blk_hit (ej_then (hK7 _ _ _ ?_)))); clear hK7
        refine CJ.sub (e' := [(1, _), (5, _), (11, _), (12, _), (13, _)]) ⟨rfl, rfl, rfl, rfl, rfl, trivial⟩ ?_
        refine cj_reg ?_
        refine j_val rfl (fun a w ha => r_inc (by omega) rfl rfl ha) ?_
        refine j_val rfl (fun a w ha => r_move rfl ha) ?_
        refine j_nil ?_
        refine ej_then ?_
        first
        | exact fun w' hH hf => hKL (k + 1, xs ++ [bs[k]], y39, p39, c39) _ w' ⟨hk', by have h : Own pNode 1 y39 p39 (xs.length + 1) c39 (xs.map ptr ++ [ptr bs[k]]) := hO39; simpa using h, by rw [← List.take_append_getElem hk']; exact hsub.append_right _, all_step hk' (fun b hb hf => List.mem_append_left _ (hall b hb hf)) (fun _ => by simp)⟩ hf hH (by simp only; omega) ⟨rfl, by simp only [List.length_append, List.length_singleton]; rfl, rfl, rfl, rfl, trivial⟩
        | exact fun w' hH hf => hKL (k + 1, xs, y, q, cc) _ w' ⟨hk', hO, hsub.trans (by rw [← List.take_append_getElem hk']; exact List.sublist_append_left _ _), all_step hk' hall (fun h0 => absurd (of_decide_eq_true h30) h0)⟩ hf hH (by simp only; omega) ⟨rfl, rfl, rfl, rfl, rfl, trivial⟩
      · refine cj_skip (ej_then (hK11 _ _ _ ?_)); clear hK11
        refine CJ.sub (e' := [(1, _), (5, _), (7, _), (11, _), (12, _), (13, _)]) ⟨rfl, rfl, rfl, rfl, rfl, rfl, trivial⟩ ?_
        refine cj_seqF fun K13 hK13 => ?_
        refine cj_seqF fun K14 hK14 => ?_
        refine cj_reg ?_
        refine j_val rfl (fun a w ha => r_move rfl ha) ?_
        refine j_val rfl (fun a w ha => r_move rfl ha) ?_
        refine j_gf rfl rfl rfl rfl ?_
        refine j_gf rfl rfl rfl rfl ?_
        refine j_val rfl (fun a w ha => r_pick_f rfl rfl ha) ?_
        refine j_nil ?_
        refine ej_then (hK14 _ _ _ ?_); clear hK14
        refine CJ.sub (e' := [(1, _), (5, _), (7, _), (11, _), (12, _), (13, _), (35, _)]) ⟨rfl, rfl, rfl, rfl, rfl, rfl, rfl, trivial⟩ ?_
        refine cj_if_f rfl ?_
        refine cj_skip (ej_then (hK13 _ _ _ ?_)); clear hK13
        refine CJ.sub (e' := [(1, _), (5, _), (7, _), (11, _), (12, _), (13, _)]) ⟨rfl, rfl, rfl, rfl, rfl, rfl, trivial⟩ ?_
        refine cj_reg ?_
        refine j_val rfl (fun a w ha => r_move rfl ha) ?_
        refine j_val rfl (fun a w ha => r_move rfl ha) ?_
        refine j_bslice1 Try.runUnderlying68 Try.sizeOf71 Try.zeroValue71 rfl rfl rfl rfl rfl fun b38 => ?_
        refine j_appO 0 rfl hO Try.runUnderlying68 el71 rfl rfl rfl rfl rfl (by omega) rfl fun y39 p39 c39 hO39 => ?_
        refine j_val rfl (fun a w ha => r_assign rfl ha) ?_
        refine j_nil ?_
        refine ej_blk (ej_then (hK7 _ _ _ ?_)); clear hK7
        refine CJ.sub (e' := [(1, _), (5, _), (11, _), (12, _), (13, _)]) ⟨rfl, rfl, rfl, rfl, rfl, trivial⟩ ?_
        refine cj_reg ?_
        refine j_val rfl (fun a w ha => r_inc (by omega) rfl rfl ha) ?_
        refine j_val rfl (fun a w ha => r_move rfl ha) ?_
        refine j_nil ?_
        refine ej_then ?_
        first
        | exact fun w' hH hf => hKL (k + 1, xs ++ [bs[k]], y39, p39, c39) _ w' ⟨hk', by have h : Own pNode 1 y39 p39 (xs.length + 1) c39 (xs.map ptr ++ [ptr bs[k]]) := hO39; simpa using h, by rw [← List.take_append_getElem hk']; exact hsub.append_right _, all_step hk' (fun b hb hf => List.mem_append_left _ (hall b hb hf)) (fun _ => by simp)⟩ hf hH (by simp only; omega) ⟨rfl, by simp only [List.length_append, List.length_singleton]; rfl, rfl, rfl, rfl, trivial⟩
        | exact fun w' hH hf => hKL (k + 1, xs, y, q, cc) _ w' ⟨hk', hO, hsub.trans (by rw [← List.take_append_getElem hk']; exact List.sublist_append_left _ _), all_step hk' hall (fun h0 => absurd (of_decide_eq_true h30) h0)⟩ hf hH (by simp only; omega) ⟨rfl, rfl, rfl, rfl, rfl, trivial⟩
    · refine j_gf rfl rfl rfl rfl ?_
      refine j_gf rfl rfl rfl rfl ?_
      refine j_gf rfl rfl rfl rfl ?_
      refine j_gf rfl rfl rfl rfl ?_
      refine j_gf rfl rfl rfl rfl ?_
      refine j_val rfl (fun a w ha => r_pick_f rfl rfl ha) ?_
      refine j_nil ?_
      refine ej_then (hK12 _ _ _ ?_); clear hK12
      refine CJ.sub (e' := [(1, _), (5, _), (7, _), (11, _), (12, _), (13, _), (30, _)]) ⟨rfl, rfl, rfl, rfl, rfl, rfl, rfl, trivial⟩ ?_
      refine cj_if_f rfl ?_
      refine cj_skip (ej_then (hK11 _ _ _ ?_)); clear hK11
      refine CJ.sub (e' := [(1, _), (5, _), (7, _), (11, _), (12, _), (13, _)]) ⟨rfl, rfl, rfl, rfl, rfl, rfl, trivial⟩ ?_
      refine cj_seqF fun K15 hK15 => ?_
      refine cj_seqF fun K16 hK16 => ?_
      refine cj_reg ?_
      refine j_val rfl (fun a w ha => r_move rfl ha) ?_
      refine j_val rfl (fun a w ha => r_move rfl ha) ?_
      refine j_gf rfl rfl rfl rfl ?_
      refine j_gf rfl rfl rfl rfl ?_
      refine j_val rfl (fun a w ha => r_pick_f rfl rfl ha) ?_
      refine j_nil ?_
      refine ej_then (hK16 _ _ _ ?_); clear hK16
      refine CJ.sub (e' := [(1, _), (5, _), (7, _), (11, _), (12, _), (13, _), (35, _)]) ⟨rfl, rfl, rfl, rfl, rfl, rfl, rfl, trivial⟩ ?_
      refine cj_if_f rfl ?_
      refine cj_skip (ej_then (hK15 _ _ _ ?_)); clear hK15
      refine CJ.sub (e' := [(1, _), (5, _), (7, _), (11, _), (12, _), (13, _)]) ⟨rfl, rfl, rfl, rfl, rfl, rfl, trivial⟩ ?_
      refine cj_reg ?_
      refine j_val rfl (fun a w ha => r_move rfl ha) ?_
      refine j_val rfl (fun a w ha => r_move rfl ha) ?_
      refine j_bslice1 Try.runUnderlying68 Try.sizeOf71 Try.zeroValue71 rfl rfl rfl rfl rfl fun b38 => ?_
      refine j_appO 0 rfl hO Try.runUnderlying68 el71 rfl rfl rfl rfl rfl (by omega) rfl fun y39 p39 c39 hO39 => ?_
      refine j_val rfl (fun a w ha => r_assign rfl ha) ?_
      refine j_nil ?_
      refine ej_blk (ej_then (hK7 _ _ _ ?_)); clear hK7
      refine CJ.sub (e' := [(1, _), (5, _), (11, _), (12, _), (13, _)]) ⟨rfl, rfl, rfl, rfl, rfl, trivial⟩ ?_
      refine cj_reg ?_
      refine j_val rfl (fun a w ha => r_inc (by omega) rfl rfl ha) ?_
      refine j_val rfl (fun a w ha => r_move rfl ha) ?_
      refine j_nil ?_
      refine ej_then ?_
      first
      | exact fun w' hH hf => hKL (k + 1, xs ++ [bs[k]], y39, p39, c39) _ w' ⟨hk', by have h : Own pNode 1 y39 p39 (xs.length + 1) c39 (xs.map ptr ++ [ptr bs[k]]) := hO39; simpa using h, by rw [← List.take_append_getElem hk']; exact hsub.append_right _, all_step hk' (fun b hb hf => List.mem_append_left _ (hall b hb hf)) (fun _ => by simp)⟩ hf hH (by simp only; omega) ⟨rfl, by simp only [List.length_append, List.length_singleton]; rfl, rfl, rfl, rfl, trivial⟩
      | exact fun w' hH hf => hKL (k + 1, xs, y, q, cc) _ w' ⟨hk', hO, hsub.trans (by rw [← List.take_append_getElem hk']; exact List.sublist_append_left _ _), all_step hk' hall (fun h0 => absurd (of_decide_eq_true h30) h0)⟩ hf hH (by simp only; omega) ⟨rfl, rfl, rfl, rfl, rfl, trivial⟩
  · refine cj_exit (ej_then_exit (ej_then_exit (ej_blk_hit (ej_then (hK3 _ _ _ ?_))))); clear hK3
    refine CJ.sub (e' := [(5, _)]) ⟨rfl, trivial⟩ ?_
    refine cj_seqF fun K17 hK17 => ?_
    refine cj_reg ?_
    refine j_val rfl (fun a w ha => r_move rfl ha) ?_
    refine j_val rfl (fun a w ha => r_build (cs := [_]) bt70 rfl rfl ha) ?_
    refine j_boxA (vs := [_]) rfl rfl fun b43 => ?_
    refine j_val rfl (fun a w ha => r_assign rfl ha) ?_
    refine j_nil ?_
    refine ej_then (hK17 _ _ _ ?_); clear hK17
    refine CJ.sub (e' := [(4, _)]) ⟨rfl, trivial⟩ ?_
    refine cj_ret (?_)
    exact ej_ret1 Try.results31 rfl fun w' hH hf => by
      rw [List.take_of_length_le (by omega)] at hsub hall
      exact ⟨⟨_, _, xs, rfl, hH.get (i := 0) rfl rfl, hO.os (i := 1) hH rfl, hsub.nodup hnd, hsub.length_le, fun b hb => hsub.subset hb, hall⟩, hf⟩
end Go.Proofs.Ytgjpegehmbebpaa
