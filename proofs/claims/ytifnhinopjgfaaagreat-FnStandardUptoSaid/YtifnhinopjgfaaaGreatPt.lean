/-
  One part more of a profile made ready to be written. Conditions: as each lemma states them.
-/
import Derived.Test.YtifnhinopjgfaaaGreatPr
namespace Go.Proofs.YtifnhinopjgfaaaGreat
open Go Go.Fw Go.Proofs Go.Proofs.Tryz
theorem kR {u w' : World} {mb : Nat} {S T : List ByteArray} {l W0 : List Nat} (k : KeepX l u w') (ht : Tab u mb S T) (hl : ∀ c ∈ l, c = mb ∨ ∃ T0 cs0, T0 ∈ W0 ∧ Blk u c T0 cs0) : ∀ (c Tt : Nat) (cs : List Value), Tt ∉ W0 → Blk u c Tt cs → Blk w' c Tt cs := fun c Tt cs hT hb => k.blk hb fun hm => by
 rcases hl c hm with rfl | ⟨T0, cs0, h0, h1⟩
 ·obtain ⟨es, ck, h2, -⟩ := ht.ex
  have h3 : u.heap[c]? = some (.cells cs.toArray Tt (0, 0)) := hb
  rw [h2] at h3; cases h3
 ·have h2 : u.heap[c]? = some (.cells cs.toArray Tt (0, 0)) := hb
  have h3 : u.heap[c]? = some (.cells cs0.toArray T0 (0, 0)) := h1
  rw [h2] at h3
  have : Tt = T0 := by injection h3 with h3; injection h3
  exact hT (this ▸ h0)
theorem kB {u w' : World} {mb b : Nat} {S T : List ByteArray} (k : KeepX [b, mb] u w') (ht : Tab u mb S T) : ∀ (c Tt : Nat) (cs : List Value), c ≠ b → Blk u c Tt cs → Blk w' c Tt cs := fun c Tt cs hT hb => k.blk hb fun hm => by
 simp at hm
 rcases hm with hm | rfl
 ·exact hT hm
 ·obtain ⟨es, ck, h2, -⟩ := ht.ex
  have h3 : u.heap[c]? = some (.cells cs.toArray Tt (0, 0)) := hb
  rw [h2] at h3; cases h3
theorem Full.line {x : PProf} {w w' : World} {v : Value} {lines : List PLine} (h : Full x w v lines) (k : ∀ b cs, Blk w b tLine cs → Blk w' b tLine cs) {w0 : World} {g : G} (hL : LRel (fidV x g) w0 w) (hv : OS tLine 3 w0 v (lines.flatMap (cLine g.funs))) : Full x w' v lines := h.keep k hL hv (by rw [flatMap_len (sz := 3) (fun _ => rfl)]; exact Nat.le_refl _)
theorem PS.s1 {B : Nat} {w0 u w' : World} {mb b : Nat} {x : PProf} {g : G} {n1 n2 n3 n4 n5 : Nat} {T T' : List ByteArray} {t : PType} {cs : List Value} (h : PS B w0 mb x g n1 n2 n3 n4 n5 T u) (hmb : w0.heap.size ≤ mb) (hBb : B ≤ b) (hn : g.types.Nodup) (hb : g.types[n1]? = some b) (hx : x.types[n1]? = some t) (hp : g.per ≠ b) (hbk : Blk u b tVT cs) (k : KeepX [b, mb] u w') (p : T <+: T') (tab : Tab w' mb (allS x) T') (hφ : φ1 T' w' b t) : PS B w0 mb x g (n1 + 1) n2 n3 n4 n5 T' w' := by
 have kr := kR (W0 := [tVT]) k h.tab (fun c hc => by
  simp at hc
  rcases hc with rfl | rfl
  ·exact .inr ⟨_, _, by simp, hbk⟩
  ·exact .inl rfl)
 exact ⟨tab, prefix_get p h.zero, frK h.fr k (fun c hc => by
  simp at hc
  rcases hc with rfl | rfl
  ·exact .inr ⟨hBb, tag_row hbk (by simp)⟩
  ·exact .inl hmb),
  h.pt.step hn hb hx (fun b x hne hh => hh.mono p fun cs => kB k h.tab _ _ cs hne) (fun b x hne hh => (fun cs => kB k h.tab _ _ cs hne) _ hh) hφ,
  h.ps.mono (fun b x hh => hh.mono p (fun cs => kr _ _ cs (by decide)) (fun c cs => kr _ _ cs (by decide)) (fun c cs => kr _ _ cs (by decide))) (fun b x hh => hh.mono (fun cs => kr _ _ cs (by decide))),
  h.pm.mono (fun b x hh => hh.mono p fun cs => kr _ _ cs (by decide)) (fun b x hh => (fun cs => kr _ _ cs (by decide)) _ hh),
  h.pl.mono (fun b x hh => hh.mono (fun cs => kr _ _ cs (by decide)) fun v hv hf => hf.line (fun b cs => kr _ _ cs (by decide)) h.lines hv) (fun b x hh => hh.mono (fun cs => kr _ _ cs (by decide))),
  h.pf.mono (fun b x hh => hh.mono p fun cs => kr _ _ cs (by decide)) (fun b x hh => (fun cs => kr _ _ cs (by decide)) _ hh),
  kB k h.tab _ _ _ hp h.per, h.lines.keep fun b cs => kr _ _ cs (by decide)⟩
theorem PS.s2 {B : Nat} {w0 u w' : World} {mb b : Nat} {x : PProf} {g : G} {n1 n2 n3 n4 n5 : Nat} {T T' : List ByteArray} {t : PSample} {cs : List Value} (h : PS B w0 mb x g n1 n2 n3 n4 n5 T u) (hmb : w0.heap.size ≤ mb) (hBb : B ≤ b) (hn : g.sams.Nodup) (hb : g.sams[n2]? = some b) (hx : x.samples[n2]? = some t) (hbk : Blk u b tSam cs) (k : KeepX [b, mb] u w') (p : T <+: T') (tab : Tab w' mb (allS x) T') (hφ : φ2 w0 T' x w' b t) : PS B w0 mb x g n1 (n2 + 1) n3 n4 n5 T' w' := by
 have kr := kR (W0 := [tSam]) k h.tab (fun c hc => by
  simp at hc
  rcases hc with rfl | rfl
  ·exact .inr ⟨_, _, by simp, hbk⟩
  ·exact .inl rfl)
 exact ⟨tab, prefix_get p h.zero, frK h.fr k (fun c hc => by
  simp at hc
  rcases hc with rfl | rfl
  ·exact .inr ⟨hBb, tag_row hbk (by simp)⟩
  ·exact .inl hmb),
  h.pt.mono (fun b x hh => hh.mono p fun cs => kr _ _ cs (by decide)) (fun b x hh => (fun cs => kr _ _ cs (by decide)) _ hh),
  h.ps.step hn hb hx (fun b x hne hh => hh.mono p (fun cs => kB k h.tab _ _ cs hne) (fun c cs => kr _ _ cs (by decide)) (fun c cs => kr _ _ cs (by decide))) (fun b x hne hh => hh.mono (fun cs => kB k h.tab _ _ cs hne)) hφ,
  h.pm.mono (fun b x hh => hh.mono p fun cs => kr _ _ cs (by decide)) (fun b x hh => (fun cs => kr _ _ cs (by decide)) _ hh),
  h.pl.mono (fun b x hh => hh.mono (fun cs => kr _ _ cs (by decide)) fun v hv hf => hf.line (fun b cs => kr _ _ cs (by decide)) h.lines hv) (fun b x hh => hh.mono (fun cs => kr _ _ cs (by decide))),
  h.pf.mono (fun b x hh => hh.mono p fun cs => kr _ _ cs (by decide)) (fun b x hh => (fun cs => kr _ _ cs (by decide)) _ hh),
  kr _ _ _ (by decide) h.per, h.lines.keep fun b cs => kr _ _ cs (by decide)⟩
theorem PS.s3 {B : Nat} {w0 u w' : World} {mb b : Nat} {x : PProf} {g : G} {n1 n2 n3 n4 n5 : Nat} {T T' : List ByteArray} {t : PMapping} {cs : List Value} (h : PS B w0 mb x g n1 n2 n3 n4 n5 T u) (hmb : w0.heap.size ≤ mb) (hBb : B ≤ b) (hn : g.maps.Nodup) (hb : g.maps[n3]? = some b) (hx : x.mappings[n3]? = some t) (hbk : Blk u b tMap cs) (k : KeepX [b, mb] u w') (p : T <+: T') (tab : Tab w' mb (allS x) T') (hφ : φ3 T' w' b t) : PS B w0 mb x g n1 n2 (n3 + 1) n4 n5 T' w' := by
 have kr := kR (W0 := [tMap]) k h.tab (fun c hc => by
  simp at hc
  rcases hc with rfl | rfl
  ·exact .inr ⟨_, _, by simp, hbk⟩
  ·exact .inl rfl)
 exact ⟨tab, prefix_get p h.zero, frK h.fr k (fun c hc => by
  simp at hc
  rcases hc with rfl | rfl
  ·exact .inr ⟨hBb, tag_row hbk (by simp)⟩
  ·exact .inl hmb),
  h.pt.mono (fun b x hh => hh.mono p fun cs => kr _ _ cs (by decide)) (fun b x hh => (fun cs => kr _ _ cs (by decide)) _ hh),
  h.ps.mono (fun b x hh => hh.mono p (fun cs => kr _ _ cs (by decide)) (fun c cs => kr _ _ cs (by decide)) (fun c cs => kr _ _ cs (by decide))) (fun b x hh => hh.mono (fun cs => kr _ _ cs (by decide))),
  h.pm.step hn hb hx (fun b x hne hh => hh.mono p fun cs => kB k h.tab _ _ cs hne) (fun b x hne hh => (fun cs => kB k h.tab _ _ cs hne) _ hh) hφ,
  h.pl.mono (fun b x hh => hh.mono (fun cs => kr _ _ cs (by decide)) fun v hv hf => hf.line (fun b cs => kr _ _ cs (by decide)) h.lines hv) (fun b x hh => hh.mono (fun cs => kr _ _ cs (by decide))),
  h.pf.mono (fun b x hh => hh.mono p fun cs => kr _ _ cs (by decide)) (fun b x hh => (fun cs => kr _ _ cs (by decide)) _ hh),
  kr _ _ _ (by decide) h.per, h.lines.keep fun b cs => kr _ _ cs (by decide)⟩
theorem PS.s5 {B : Nat} {w0 u w' : World} {mb b : Nat} {x : PProf} {g : G} {n1 n2 n3 n4 n5 : Nat} {T T' : List ByteArray} {t : PFunc} {cs : List Value} (h : PS B w0 mb x g n1 n2 n3 n4 n5 T u) (hmb : w0.heap.size ≤ mb) (hBb : B ≤ b) (hn : g.funs.Nodup) (hb : g.funs[n5]? = some b) (hx : x.funcs[n5]? = some t) (hbk : Blk u b tFun cs) (k : KeepX [b, mb] u w') (p : T <+: T') (tab : Tab w' mb (allS x) T') (hφ : φ5 T' w' b t) : PS B w0 mb x g n1 n2 n3 n4 (n5 + 1) T' w' := by
 have kr := kR (W0 := [tFun]) k h.tab (fun c hc => by
  simp at hc
  rcases hc with rfl | rfl
  ·exact .inr ⟨_, _, by simp, hbk⟩
  ·exact .inl rfl)
 exact ⟨tab, prefix_get p h.zero, frK h.fr k (fun c hc => by
  simp at hc
  rcases hc with rfl | rfl
  ·exact .inr ⟨hBb, tag_row hbk (by simp)⟩
  ·exact .inl hmb),
  h.pt.mono (fun b x hh => hh.mono p fun cs => kr _ _ cs (by decide)) (fun b x hh => (fun cs => kr _ _ cs (by decide)) _ hh),
  h.ps.mono (fun b x hh => hh.mono p (fun cs => kr _ _ cs (by decide)) (fun c cs => kr _ _ cs (by decide)) (fun c cs => kr _ _ cs (by decide))) (fun b x hh => hh.mono (fun cs => kr _ _ cs (by decide))),
  h.pm.mono (fun b x hh => hh.mono p fun cs => kr _ _ cs (by decide)) (fun b x hh => (fun cs => kr _ _ cs (by decide)) _ hh),
  h.pl.mono (fun b x hh => hh.mono (fun cs => kr _ _ cs (by decide)) fun v hv hf => hf.line (fun b cs => kr _ _ cs (by decide)) h.lines hv) (fun b x hh => hh.mono (fun cs => kr _ _ cs (by decide))),
  h.pf.step hn hb hx (fun b x hne hh => hh.mono p fun cs => kB k h.tab _ _ cs hne) (fun b x hne hh => (fun cs => kB k h.tab _ _ cs hne) _ hh) hφ,
  kr _ _ _ (by decide) h.per, h.lines.keep fun b cs => kr _ _ cs (by decide)⟩
/-! ### a location -/
def LS (fid : Value → Int) (cs0 cs cs' : List Value) : Prop := ∀ (j : Nat), cs'[j]? = cs[j]? ∨ (j % 3 = 2 ∧ ∃ v, cs0[j - 2]? = some v ∧ cs'[j]? = some (.int .u64 (fid v)))
theorem LS.refl {fid : Value → Int} {cs0 cs : List Value} : LS fid cs0 cs cs := fun _ => .inl rfl
theorem LS.set {fid : Value → Int} {cs0 cs cs' : List Value} {i : Nat} {v : Value} (h : LS fid cs0 cs cs') (hv : cs0[i * 3]? = some v) (hl : i * 3 + 2 < cs'.length) : LS fid cs0 cs (cs'.set (i * 3 + 2) (.int .u64 (fid v))) := fun j => by
 by_cases he : i * 3 + 2 = j
 ·subst he
  exact .inr ⟨by omega, v, by simpa using hv, by rw [List.getElem?_set_self hl]⟩
 ·rw [List.getElem?_set_ne he]; exact h j
theorem cLine_at {funs : List Nat} : ∀ {lines : List PLine} {i : Nat} {n : PLine}, lines[i]? = some n → (lines.flatMap (cLine funs))[i * 3]? = some (ptrAt funs n.fn) := fun {lines i n} h => by
 have := flatMap_get (c := cLine funs) (sz := 3) (fun _ => rfl) h 0 (ptrAt funs n.fn) rfl
 simpa using this
theorem Full.step {x : PProf} {g : G} {w0 u w' : World} {v : Value} {lines : List PLine} (h : Full x u v lines) (hv : OS tLine 3 w0 v (lines.flatMap (cLine g.funs))) (hfid : ∀ n ∈ lines, fidV x g (ptrAt g.funs n.fn) = fnid x n.fn) (hL : LRel (fidV x g) w0 u)
  (hrow : ∀ (c : Nat) cs0 cs, Blk w0 c tLine cs0 → Blk u c tLine cs → ∃ cs', Blk w' c tLine cs' ∧ LS (fidV x g) cs0 cs cs') : Full x w' v lines := by
 intro p l c rb e1 e2 i n hn
 have h1 := h p l c rb e1 e2 i n hn
 obtain ⟨y, p', l', c', e3, hO, hy⟩ := hv
 rw [e1] at e3
 cases e3
 have hlen : (lines.flatMap (cLine g.funs)).length = lines.length * 3 := flatMap_len (sz := 3) (fun _ => rfl) _
 have hll : 0 < l := by
  have := hO.sl.1
  have := (List.getElem?_eq_some_iff.1 hn).1
  omega
 obtain ⟨hon, hp⟩ := hO.pos hll
 rw [e2] at hp
 obtain rfl : rb = y.b := by cases hp; rfl
 obtain ⟨cs1, h2, -⟩ := hL _ _ (hy hon)
 obtain ⟨cs', h3, h4⟩ := hrow _ _ _ (hy hon) h2
 rw [h2.cell] at h1
 rw [h3.cell]
 rcases h4 (i * 3 + 2) with h5 | ⟨-, z, h5, h6⟩
 ·rw [h5]; exact h1
 ·rw [h6]
  obtain ⟨-, -, q⟩ := hO.sl
  rcases q with ⟨-, -, ⟨ex, q⟩, -⟩ | ⟨q, -⟩
  ·rw [q, show i * 3 + 2 - 2 = i * 3 by omega, List.getElem?_append_left (by rw [hlen]; have := (List.getElem?_eq_some_iff.1 hn).1; omega), cLine_at hn] at h5
   cases h5
   rw [hfid n (List.mem_of_getElem? hn)]
  ·rw [hon] at q; cases q
theorem PS.s4 {B : Nat} {w0 u w' : World} {mb b : Nat} {x : PProf} {g : G} {n1 n2 n3 n4 n5 : Nat} {T : List ByteArray} {t : PLoc} {cs : List Value} {l : List Nat} (h : PS B w0 mb x g n1 n2 n3 n4 n5 T u) (hBl : ∀ c ∈ l, B ≤ c) (hn : g.locs.Nodup) (hb : g.locs[n4]? = some b) (hx : x.locs[n4]? = some t) (hbk : Blk u b tLoc cs) (k : KeepX l u w')
  (hl : ∀ c ∈ l, c = b ∨ ∃ cs0, Blk u c tLine cs0) (hfid : ∀ l ∈ x.locs, ∀ n ∈ l.lines, fidV x g (ptrAt g.funs n.fn) = fnid x n.fn)
  (hrow : ∀ (c : Nat) cs0 cs, Blk w0 c tLine cs0 → Blk u c tLine cs → ∃ cs', Blk w' c tLine cs' ∧ LS (fidV x g) cs0 cs cs') (hL : LRel (fidV x g) w0 w') (hφ : φ4 w0 x g w' b t) : PS B w0 mb x g n1 n2 n3 (n4 + 1) n5 T w' := by
 have p := List.prefix_refl T
 have hl' : ∀ c ∈ l, ∃ T0 cs0, T0 ∈ [tLoc, tLine] ∧ Blk u c T0 cs0 := fun c hc => by
  rcases hl c hc with rfl | ⟨cs0, h0⟩
  ·exact ⟨_, _, by simp, hbk⟩
  ·exact ⟨_, _, by simp, h0⟩
 have kr := kR (W0 := [tLoc, tLine]) k h.tab (fun c hc => .inr (hl' c hc))
 have kb : ∀ (c : Nat) (cs : List Value), c ≠ b → Blk u c tLoc cs → Blk w' c tLoc cs := fun c cs hne hc => k.blk hc fun hm => by
  rcases hl c hm with hm | ⟨cs0, h0⟩
  ·exact hne hm
  ·exact absurd rfl (Blk.ne hc h0 (by decide))
 have hmap : ∀ es ck, u.heap[mb]? = some (.map es ck) → w'.heap[mb]? = some (.map es ck) := fun es ck hm => k.keep _ _ hm fun hmm => by
  obtain ⟨T0, cs0, -, h0⟩ := hl' _ hmm
  have h3 : u.heap[mb]? = some (.cells cs0.toArray T0 (0, 0)) := h0
  rw [hm] at h3; cases h3
 have hPl : Pg n4 g.locs x.locs (fun b t => φ4 w0 x g u b t ∧ t ∈ x.locs) (ψ4 B w0 g u) := fun i b t hb ht => ⟨fun hi => ⟨(h.pl i b t hb ht).1 hi, List.mem_of_getElem? ht⟩, (h.pl i b t hb ht).2⟩
 exact ⟨h.tab.keep hmap, h.zero, frK h.fr k (fun c hc => by
  obtain ⟨T0, cs0, h0, h1⟩ := hl' c hc
  exact .inr ⟨hBl c hc, tag_row h1 (by simp at h0; rcases h0 with rfl | rfl <;> simp)⟩),
  h.pt.mono (fun b x hh => hh.mono p fun cs => kr _ _ cs (by decide)) (fun b x hh => (fun cs => kr _ _ cs (by decide)) _ hh),
  h.ps.mono (fun b x hh => hh.mono p (fun cs => kr _ _ cs (by decide)) (fun c cs => kr _ _ cs (by decide)) (fun c cs => kr _ _ cs (by decide))) (fun b x hh => hh.mono (fun cs => kr _ _ cs (by decide))),
  h.pm.mono (fun b x hh => hh.mono p fun cs => kr _ _ cs (by decide)) (fun b x hh => (fun cs => kr _ _ cs (by decide)) _ hh),
  hPl.step hn hb hx (fun b t hne hh => hh.1.mono (fun cs => kb _ cs hne) fun v hv hf => hf.step hv (hfid _ hh.2) h.lines hrow) (fun b t hne hh => hh.mono fun cs => kb _ cs hne) hφ,
  h.pf.mono (fun b x hh => hh.mono p fun cs => kr _ _ cs (by decide)) (fun b x hh => (fun cs => kr _ _ cs (by decide)) _ hh),
  kr _ _ _ (by decide) h.per, hL⟩
/-! ### a location's row of lines -/
theorem Blk.same' {w : World} {b T : Nat} {cs ds : List Value} (h : Blk w b T cs) (k : Blk w b T ds) : cs = ds := by
 have q1 : w.heap[b]? = some (.cells cs.toArray T (0, 0)) := h
 have q2 : w.heap[b]? = some (.cells ds.toArray T (0, 0)) := k
 rw [q1] at q2
 simpa using q2
def offL (on : Bool) (b : Nat) : List Nat := if on then [b] else []
theorem Hp.rowOff {w : World} {b T yb T2 : Nat} {cs cs1 : List Value} {on : Bool} {W : List Nat} (hb : Blk w b T cs) (hy : on = true → Blk w yb T2 cs1) (hne : T ≠ T2) (hT : W.any (fun t => Nat.beq t T) = true) (hT2 : W.any (fun t => Nat.beq t T2) = true) :
  Hp ⟨w, 0, W⟩ w (⟨b, T, cs, true, true, none⟩ :: ⟨yb, T2, cs1, true, on, none⟩ :: restH w (b :: offL on yb)) := by
 refine ⟨⟨fun _ => hb, fun o h => by cases h⟩, fun _ _ => .inr ⟨Nat.zero_le _, mem_of_any hT⟩, fun _ y hy' he => ?_, ⟨fun h => hy h, fun o ho => by cases ho⟩, fun he _ => .inr ⟨Nat.zero_le _, mem_of_any hT2⟩, fun he => rest_ne (by
  have : on = true := by simpa [Ent.ex] using he
  simp [offL, this]), Hp.rest _⟩
 rcases List.mem_cons.1 hy' with rfl | hy'
 ·have hon : on = true := by simpa [Ent.ex] using he
  exact (Blk.ne hb (hy hon) hne).symm
 ·exact rest_ne (by simp) y hy' he
theorem row_step {w0 u w' : World} {fid : Value → Int} {b yb : Nat} {on : Bool} {cb cs0 cs1 csF : List Value} (hL : LRel fid w0 u) (hb : Blk u b tLoc cb) (k : KeepX (b :: offL on yb) u w') (h0 : on = true → Blk w0 yb tLine cs0) (h1 : on = true → Blk u yb tLine cs1) (hF : on = true → Blk w' yb tLine csF ∧ LC fid cs0 csF ∧ LS fid cs0 cs1 csF) :
  (∀ (c : Nat) cs0 cs, Blk w0 c tLine cs0 → Blk u c tLine cs → ∃ cs', Blk w' c tLine cs' ∧ LS fid cs0 cs cs') ∧ LRel fid w0 w' := by
 have key : ∀ c cs, Blk u c tLine cs → (on = true ∧ c = yb) ∨ Blk w' c tLine cs := fun c cs hc => by
  by_cases h : on = true ∧ c = yb
  ·exact .inl h
  ·refine .inr (k.blk hc fun hm => ?_)
   rcases List.mem_cons.1 hm with hm | hm
   ·exact absurd hm (Blk.ne hb hc (by decide)).symm
   ·unfold offL at hm
    split at hm
    ·rename_i hon
     simp at hm
     exact h ⟨hon, hm⟩
    ·cases hm
 refine ⟨fun c ds0 ds hc0 hc => ?_, fun c ds0 hc0 => ?_⟩
 ·rcases key c ds hc with ⟨hon, rfl⟩ | hk
  ·obtain ⟨f1, f2, f3⟩ := hF hon
   rw [Blk.same' hc0 (h0 hon), Blk.same' hc (h1 hon)]
   exact ⟨csF, f1, f3⟩
  ·exact ⟨ds, hk, LS.refl⟩
 ·obtain ⟨ds, hc, hlc⟩ := hL c ds0 hc0
  rcases key c ds hc with ⟨hon, rfl⟩ | hk
  ·obtain ⟨f1, f2, f3⟩ := hF hon
   rw [Blk.same' hc0 (h0 hon)]
   exact ⟨csF, f1, f2⟩
  ·exact ⟨ds, hk, hlc⟩
theorem flat3 {funs : List Nat} {lines : List PLine} {ex cs : List Value} {fid : Value → Int} (h : LC fid (lines.flatMap (cLine funs) ++ ex) cs) {i : Nat} (hi : i < lines.length) : ∃ z : Int, (cs.drop (0 + i * 3)).take 3 = [ptrAt funs lines[i].fn, .int .i64 lines[i].line, .int .u64 z] := by
 have hl : (lines.flatMap (cLine funs)).length = lines.length * 3 := flatMap_len (sz := 3) (fun _ => rfl) _
 have hg : ∀ (q : Nat) u, (cLine funs lines[i])[q]? = some u → (lines.flatMap (cLine funs) ++ ex)[i * 3 + q]? = some u := fun q u hu => by
  have h1 := flatMap_get (c := cLine funs) (sz := 3) (fun _ => rfl) (List.getElem?_eq_getElem hi) q u hu
  rw [List.getElem?_append_left (List.getElem?_eq_some_iff.1 h1).1]; exact h1
 have h0 : cs[i * 3]? = some (ptrAt funs lines[i].fn) := by rw [(h.2 (i * 3)).1 (by omega)]; exact hg 0 _ rfl
 have h1 : cs[i * 3 + 1]? = some (.int .i64 lines[i].line) := by rw [(h.2 (i * 3 + 1)).1 (by omega)]; exact hg 1 _ rfl
 have h2 : ∃ z : Int, cs[i * 3 + 2]? = some (.int .u64 z) := by
  rcases (h.2 (i * 3 + 2)).2 (by omega) with h2 | ⟨v, -, h2⟩
  ·exact ⟨0, by rw [h2]; exact hg 2 _ rfl⟩
  ·exact ⟨_, h2⟩
 obtain ⟨z, h2⟩ := h2
 refine ⟨z, ?_⟩
 apply List.ext_getElem?
 intro q
 rw [Nat.zero_add]
 by_cases hq : q < 3
 ·rw [List.getElem?_take_of_lt hq, List.getElem?_drop]
  match q, hq with
  | 0, _ => exact h0
  | 1, _ => exact h1
  | 2, _ => exact h2
 ·rw [List.getElem?_eq_none (by simp; omega), List.getElem?_eq_none (by simp; omega)]
/-- what a profile is when it is ready to be written -/
structure PreE (B : Nat) (w0 w' : World) (x : PProf) (g : G) (T : List ByteArray) : Prop where
 zero : T[0]? = some eB
 sub : ∀ s ∈ T, s ∈ allS x
 nd : T.Nodup
 fr : Fr B (tProf :: wP) w0 w'
 prof : ∃ ty sa ma lo fu co dx kx sx, Blk w' g.pb tProf [ty, .string x.deflt, sa, ma, lo, fu, co, .string x.drop, .string x.keep, .int .i64 x.time, .int .i64 x.dur, ptr g.per, .int .i64 x.period, .slice none 0 0, .int .i64 dx, .int .i64 kx, sx, .int .i64 0] ∧
  OS pVT 1 w0 ty (g.types.map ptr) ∧ OS pSam 1 w0 sa (g.sams.map ptr) ∧ OS pMap 1 w0 ma (g.maps.map ptr) ∧ OS pLoc 1 w0 lo (g.locs.map ptr) ∧ OS pFun 1 w0 fu (g.funs.map ptr) ∧ OS tStr 1 w' sx (T.map .string) ∧ At T dx x.drop ∧ At T kx x.keep
 per : φ1 T w' g.per x.per
 types : Each g.types x.types (φ1 T w')
 sams : Each g.sams x.samples (φ2 w0 T x w')
 maps : Each g.maps x.mappings (φ3 T w')
 locs : Each g.locs x.locs (φ4 w0 x g w')
 funs : Each g.funs x.funcs (φ5 T w')
 lines : LRel (fidV x g) w0 w'
theorem PS.fin {B : Nat} {w0 u w' : World} {mb : Nat} {x : PProf} {g : G} {T T' : List ByteArray} {cb : List Value} (h : PS B w0 mb x g x.types.length x.samples.length x.mappings.length x.locs.length x.funcs.length T u) (hG : OfP B w0 x g) (hpb : Blk u g.pb tProf cb) (hmb : w0.heap.size ≤ mb) (k : KeepX [g.pb, g.per, mb] u w') (p : T <+: T') :
  Fr B (tProf :: wP) w0 w' ∧ Each g.types x.types (φ1 T' w') ∧ Each g.sams x.samples (φ2 w0 T' x w') ∧ Each g.maps x.mappings (φ3 T' w') ∧ Each g.locs x.locs (φ4 w0 x g w') ∧ Each g.funs x.funcs (φ5 T' w') ∧ LRel (fidV x g) w0 w' := by
 have kr := kR (W0 := [tProf, tVT]) k h.tab (fun c hc => by
  simp at hc
  rcases hc with rfl | rfl | rfl
  ·exact .inr ⟨_, _, by simp, hpb⟩
  ·exact .inr ⟨_, _, by simp, h.per⟩
  ·exact .inl rfl)
 have ht : Each g.types x.types (φ1 T u) := h.pt.full hG.types.1 (Nat.le_refl _)
 refine ⟨frK (h.fr.mono (B' := B) (W' := tProf :: wP) (.inr ⟨Nat.le_refl _, fun _ h => List.mem_cons_of_mem _ h⟩)) k (fun c hc => ?_), ⟨ht.1, fun i b y hb hy => (ht.2 i b y hb hy).mono p fun cs hbk => k.blk hbk fun hm => ?_⟩,
  (h.ps.full hG.sams.1 (Nat.le_refl _)).mono fun b x hh => hh.mono p (fun cs => kr _ _ cs (by decide)) (fun c cs => kr _ _ cs (by decide)) (fun c cs => kr _ _ cs (by decide)),
  (h.pm.full hG.maps.1 (Nat.le_refl _)).mono fun b x hh => hh.mono p fun cs => kr _ _ cs (by decide),
  (h.pl.full hG.locs.1 (Nat.le_refl _)).mono fun b x hh => hh.mono (fun cs => kr _ _ cs (by decide)) fun v hv hf => hf.line (fun b cs => kr _ _ cs (by decide)) h.lines hv,
  (h.pf.full hG.funs.1 (Nat.le_refl _)).mono fun b x hh => hh.mono p fun cs => kr _ _ cs (by decide), h.lines.keep fun b cs => kr _ _ cs (by decide)⟩
 ·simp at hc
  rcases hc with rfl | rfl | rfl
  ·exact .inr ⟨hG.fresh.1, tag_row hpb (by simp)⟩
  ·exact .inr ⟨hG.fresh.2.1, tag_row h.per (by simp)⟩
  ·exact .inl hmb
 ·simp at hm
  rcases hm with rfl | rfl | rfl
  ·exact absurd rfl (Blk.ne hbk hpb (by decide))
  ·exact (List.nodup_cons.1 hG.ntypes).1 (List.mem_of_getElem? hb)
  ·obtain ⟨es, ck, h2, -⟩ := h.tab.ex
   have h3 : u.heap[b]? = some (.cells cs.toArray tVT (0, 0)) := hbk
   rw [h2] at h3; cases h3
theorem Hp.rowRowMap {w : World} {b T b2 T2 mb ck : Nat} {W : List Nat} {cs cs2 : List Value} {es : List MapEntry} (hb : Blk w b T cs) (hb2 : Blk w b2 T2 cs2) (hne : T ≠ T2) (hm : w.heap[mb]? = some (.map es.toArray ck)) (hT : W.any (fun t => Nat.beq t T) = true) (hT2 : W.any (fun t => Nat.beq t T2) = true) (hT3 : W.any (fun t => Nat.beq t 1000000) = true) :
  Hp ⟨w, 0, W⟩ w (⟨b, T, cs, true, true, none⟩ :: ⟨b2, T2, cs2, true, true, none⟩ :: mpE mb es ck :: restH w [b, b2, mb]) := by
 have nm : ∀ {c U : Nat} {ds : List Value}, Blk w c U ds → mb ≠ c := fun {c U ds} h e => by
  subst e
  have h1 : w.heap[mb]? = some (.cells ds.toArray U (0, 0)) := h
  rw [hm] at h1; cases h1
 refine ⟨⟨fun _ => hb, fun o h => by cases h⟩, fun _ _ => .inr ⟨Nat.zero_le _, mem_of_any hT⟩, fun _ y hy he => ?_, ⟨fun _ => hb2, fun o h => by cases h⟩, fun _ _ => .inr ⟨Nat.zero_le _, mem_of_any hT2⟩, fun _ y hy he => ?_, ⟨fun h => (by cases h), fun o ho => by cases ho; exact hm⟩, fun _ _ => .inr ⟨Nat.zero_le _, mem_of_any hT3⟩, fun _ => rest_ne (by simp), Hp.rest _⟩
 ·rcases List.mem_cons.1 hy with rfl | hy
  ·exact (Blk.ne hb hb2 hne).symm
  rcases List.mem_cons.1 hy with rfl | hy
  ·exact nm hb
  ·exact rest_ne (by simp) y hy he
 ·rcases List.mem_cons.1 hy with rfl | hy
  ·exact nm hb2
  ·exact rest_ne (by simp) y hy he
end Go.Proofs.YtifnhinopjgfaaaGreat
