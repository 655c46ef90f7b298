/-
  What a profile is while it is made ready to be written. Conditions: as each lemma states them.
-/
import Derived.Test.YtifnhinopjgfaaaGreatVi
namespace Go.Proofs.YtifnhinopjgfaaaGreat
open Go Go.Fw Go.Proofs Go.Proofs.Tryz
abbrev eB : ByteArray := ⟨#[]⟩
/-- all texts of a profile -/
def samS (s : PSample) : List ByteArray := (s.texts.flatMap fun t => t.key :: t.list) ++ s.nums.map (·.key)
def allS (x : PProf) : List ByteArray := [eB, x.drop, x.keep, x.per.ty, x.per.unit] ++ ((x.types.flatMap fun t => [t.ty, t.unit]) ++ ((x.samples.flatMap samS) ++ ((x.mappings.flatMap fun m => [m.file, m.build]) ++ x.funcs.flatMap fun f => [f.name, f.system, f.file])))
theorem allS_t {x : PProf} {t : PType} (h : t ∈ x.types) {s : ByteArray} (hs : s ∈ [t.ty, t.unit]) : s ∈ allS x := by
 simp only [allS, List.mem_append]
 exact .inr (.inl (List.mem_flatMap.2 ⟨t, h, hs⟩))
theorem allS_s {x : PProf} {t : PSample} (h : t ∈ x.samples) {s : ByteArray} (hs : s ∈ samS t) : s ∈ allS x := by
 simp only [allS, List.mem_append]
 exact .inr (.inr (.inl (List.mem_flatMap.2 ⟨t, h, hs⟩)))
theorem allS_m {x : PProf} {t : PMapping} (h : t ∈ x.mappings) {s : ByteArray} (hs : s ∈ [t.file, t.build]) : s ∈ allS x := by
 simp only [allS, List.mem_append]
 exact .inr (.inr (.inr (.inl (List.mem_flatMap.2 ⟨t, h, hs⟩))))
theorem allS_f {x : PProf} {t : PFunc} (h : t ∈ x.funcs) {s : ByteArray} (hs : s ∈ [t.name, t.system, t.file]) : s ∈ allS x := by
 simp only [allS, List.mem_append]
 exact .inr (.inr (.inr (.inr (List.mem_flatMap.2 ⟨t, h, hs⟩))))
theorem samS_key {s : PSample} {t : PTexts} (h : t ∈ s.texts) : t.key ∈ samS s := by
 simp only [samS, List.mem_append]
 exact .inl (List.mem_flatMap.2 ⟨t, h, by simp⟩)
theorem samS_txt {s : PSample} {t : PTexts} (h : t ∈ s.texts) {v : ByteArray} (hv : v ∈ t.list) : v ∈ samS s := by
 simp only [samS, List.mem_append]
 exact .inl (List.mem_flatMap.2 ⟨t, h, by simp [hv]⟩)
theorem samS_num {s : PSample} {t : PNums} (h : t ∈ s.nums) : t.key ∈ samS s := by
 simp only [samS, List.mem_append]
 exact .inr (List.mem_map.2 ⟨t, h, rfl⟩)
/-! ### numbers of parts -/
def idAt (ids : List Int) (z : Int) : Int := if 0 ≤ z then ids.getD z.toNat 0 else 0
abbrev mid (x : PProf) (z : Int) : Int := idAt (x.mappings.map (·.id)) z
abbrev fnid (x : PProf) (z : Int) : Int := idAt (x.funcs.map (·.id)) z
abbrev lid (x : PProf) (z : Int) : Int := idAt (x.locs.map (·.id)) z
/-- the number of the function that a pointer points at -/
def fidV (x : PProf) (g : G) : Value → Int
 | .pointer (some a) => (x.funcs.map (·.id)).getD (g.funs.idxOf a.block) 0
 | _ => 0
theorem idxOf_get {l : List Nat} (hn : l.Nodup) {i b : Nat} (h : l[i]? = some b) : l.idxOf b = i := by
 have hl := (List.getElem?_eq_some_iff.1 h).1
 have hb : l[i] = b := by rw [List.getElem?_eq_getElem hl] at h; exact Option.some.inj h
 have hm : b ∈ l := List.mem_of_getElem? h
 have h1 : l.idxOf b < l.length := List.idxOf_lt_length_iff.2 hm
 have h2 : l[l.idxOf b] = b := List.getElem_idxOf h1
 exact nodup_ix hn h1 hl (by rw [h2, hb])
theorem fidV_ptr {x : PProf} {g : G} (hn : g.funs.Nodup) (hl : g.funs.length = x.funcs.length) {z : Int} (hz : 0 ≤ z → z.toNat < x.funcs.length) : fidV x g (ptrAt g.funs z) = fnid x z := by
 unfold ptrAt fnid idAt
 by_cases h : 0 ≤ z
 ·have hlt := hz h
  have hg : g.funs[z.toNat]? = some g.funs[z.toNat] := List.getElem?_eq_getElem (by omega)
  simp only [h, if_true, hg, Option.map_some, fidV]
  rw [idxOf_get hn hg]
 ·simp [h, fidV]
/-! ### labels -/
def labE1 (t : PTexts) : List (ByteArray × Option ByteArray × Int) := t.list.map fun v => (t.key, some v, 0)
def labE2 (t : PNums) : List (ByteArray × Option ByteArray × Int) := t.list.map fun v => (t.key, none, v)
def labE (s : PSample) : List (ByteArray × Option ByteArray × Int) := s.texts.flatMap labE1 ++ s.nums.flatMap labE2
def LbOK (T : List ByteArray) (q : Int × Int × Int) (e : ByteArray × Option ByteArray × Int) : Prop := At T q.1 e.1 ∧ match e.2.1 with
 | some v => At T q.2.1 v ∧ q.2.2 = 0
 | none => q.2.1 = 0 ∧ q.2.2 = e.2.2
theorem LbOK.mono {T T' : List ByteArray} {q : Int × Int × Int} {e : ByteArray × Option ByteArray × Int} (h : LbOK T q e) (p : T <+: T') : LbOK T' q e := by
 obtain ⟨h1, h2⟩ := h
 refine ⟨h1.mono p, ?_⟩
 obtain ⟨k, v, z⟩ := e
 cases v with
 | some v => exact ⟨h2.1.mono p, h2.2⟩
 | none => exact h2
def LbR (T : List ByteArray) (lbs : List (Int × Int × Int)) (es : List (ByteArray × Option ByteArray × Int)) : Prop := lbs.length = es.length ∧ ∀ (i : Nat) q e, lbs[i]? = some q → es[i]? = some e → LbOK T q e
theorem LbR.nil {T : List ByteArray} : LbR T [] [] := ⟨rfl, by simp⟩
theorem LbR.mono {T T' : List ByteArray} {lbs : List (Int × Int × Int)} {es : List (ByteArray × Option ByteArray × Int)} (h : LbR T lbs es) (p : T <+: T') : LbR T' lbs es := ⟨h.1, fun i q e hq he => (h.2 i q e hq he).mono p⟩
theorem LbR.push {T T' : List ByteArray} {lbs : List (Int × Int × Int)} {es : List (ByteArray × Option ByteArray × Int)} {q : Int × Int × Int} {e : ByteArray × Option ByteArray × Int} (h : LbR T lbs es) (p : T <+: T') (hq : LbOK T' q e) : LbR T' (lbs ++ [q]) (es ++ [e]) := by
 refine ⟨by simp [h.1], fun i q' e' hq' he' => ?_⟩
 by_cases hi : i < lbs.length
 ·rw [List.getElem?_append_left hi] at hq'
  rw [List.getElem?_append_left (by rw [← h.1]; exact hi)] at he'
  exact (h.2 i q' e' hq' he').mono p
 ·have hlt := (List.getElem?_eq_some_iff.1 hq').1
  simp at hlt
  have e1 : i = lbs.length := by omega
  subst e1
  rw [List.getElem?_append_right (by omega)] at hq'
  rw [List.getElem?_append_right (by rw [h.1]; omega)] at he'
  simp at hq'
  simp [h.1] at he'
  subst hq'; subst he'; exact hq
/-! ### the parts, done and to be done -/
def φ1 (T : List ByteArray) (w : World) (b : Nat) (t : PType) : Prop := ∃ n m, Blk w b tVT [.string t.ty, .string t.unit, .int .i64 n, .int .i64 m] ∧ At T n t.ty ∧ At T m t.unit
def φ3 (T : List ByteArray) (w : World) (b : Nat) (m : PMapping) : Prop := ∃ n k, Blk w b tMap [.int .u64 m.id, .int .u64 m.start, .int .u64 m.limit, .int .u64 m.offset, .string m.file, .string m.build, .bool m.fu, .bool m.fi, .bool m.li, .bool m.inl, .int .i64 n, .int .i64 k] ∧ At T n m.file ∧ At T k m.build
def φ5 (T : List ByteArray) (w : World) (b : Nat) (f : PFunc) : Prop := ∃ n k i, Blk w b tFun [.int .u64 f.id, .string f.name, .string f.system, .string f.file, .int .i64 f.start, .int .i64 n, .int .i64 k, .int .i64 i] ∧ At T n f.name ∧ At T k f.system ∧ At T i f.file
def φ2 (w0 : World) (T : List ByteArray) (x : PProf) (w : World) (b : Nat) (s : PSample) : Prop := ∃ ls vs lm nm iv xv lbs, Blk w b tSam [ls, vs, lm, nm, .map none, iv, xv] ∧ OS tI64 1 w0 vs (s.values.map (.int .i64)) ∧
 OS tU64 1 w iv (s.stack.map fun z => .int .u64 (lid x z)) ∧ OS tLabel 3 w xv (lbs.flatMap cLb) ∧ LbR T lbs (labE s)
def ψ2 (w0 : World) (locs : List Nat) (w : World) (b : Nat) (s : PSample) : Prop := ∃ ls vs lm nm, Blk w b tSam (cSam ls vs lm nm) ∧ OS pLoc 1 w0 ls (s.stack.map (ptrAt locs)) ∧ OS tI64 1 w0 vs (s.values.map (.int .i64)) ∧ LabM tStr w0 lm (labT s) ∧ LabM tI64 w0 nm (labN s)
def ψ4 (B : Nat) (w0 : World) (g : G) (w : World) (b : Nat) (l : PLoc) : Prop := ∃ ls, Blk w b tLoc (cLoc g.maps l ls) ∧ OS tLine 3 w0 ls (l.lines.flatMap (cLine g.funs)) ∧ ∀ rb n c, ls = .slice (some ⟨rb, 0, none⟩) n c → B ≤ rb
/-- lines' function numbers stand in a slice's row -/
def Full (x : PProf) (w : World) (v : Value) (lines : List PLine) : Prop := ∀ p l c rb, v = .slice p l c → p = some ⟨rb, 0, none⟩ → ∀ (i : Nat) n, lines[i]? = some n → w.cell? ⟨rb, i * 3 + 2, none⟩ = some (.int .u64 (fnid x n.fn))
def φ4 (w0 : World) (x : PProf) (g : G) (w : World) (b : Nat) (l : PLoc) : Prop := ∃ ls, Blk w b tLoc [.int .u64 l.id, ptrAt g.maps l.mapping, .int .u64 l.addr, ls, .bool false, .int .u64 (mid x l.mapping)] ∧ OS tLine 3 w0 ls (l.lines.flatMap (cLine g.funs)) ∧ Full x w ls l.lines
theorem φ1.mono {T T' : List ByteArray} {w w' : World} {b : Nat} {t : PType} (h : φ1 T w b t) (p : T <+: T') (k : ∀ cs, Blk w b tVT cs → Blk w' b tVT cs) : φ1 T' w' b t := by
 obtain ⟨n, m, h1, h2, h3⟩ := h
 exact ⟨n, m, k _ h1, h2.mono p, h3.mono p⟩
theorem φ3.mono {T T' : List ByteArray} {w w' : World} {b : Nat} {t : PMapping} (h : φ3 T w b t) (p : T <+: T') (k : ∀ cs, Blk w b tMap cs → Blk w' b tMap cs) : φ3 T' w' b t := by
 obtain ⟨n, m, h1, h2, h3⟩ := h
 exact ⟨n, m, k _ h1, h2.mono p, h3.mono p⟩
theorem φ5.mono {T T' : List ByteArray} {w w' : World} {b : Nat} {t : PFunc} (h : φ5 T w b t) (p : T <+: T') (k : ∀ cs, Blk w b tFun cs → Blk w' b tFun cs) : φ5 T' w' b t := by
 obtain ⟨n, m, i, h1, h2, h3, h4⟩ := h
 exact ⟨n, m, i, k _ h1, h2.mono p, h3.mono p, h4.mono p⟩
theorem φ2.mono {w0 : World} {T T' : List ByteArray} {x : PProf} {w w' : World} {b : Nat} {s : PSample} (h : φ2 w0 T x w b s) (p : T <+: T') (k : ∀ cs, Blk w b tSam cs → Blk w' b tSam cs) (k2 : ∀ c cs, Blk w c tU64 cs → Blk w' c tU64 cs) (k3 : ∀ c cs, Blk w c tLabel cs → Blk w' c tLabel cs) : φ2 w0 T' x w' b s := by
 obtain ⟨ls, vs, lm, nm, iv, xv, lbs, h1, h2, h3, h4, h5⟩ := h
 exact ⟨ls, vs, lm, nm, iv, xv, lbs, k _ h1, h2, h3.mono k2, h4.mono k3, h5.mono p⟩
theorem ψ2.mono {w0 : World} {locs : List Nat} {w w' : World} {b : Nat} {s : PSample} (h : ψ2 w0 locs w b s) (k : ∀ cs, Blk w b tSam cs → Blk w' b tSam cs) : ψ2 w0 locs w' b s := by
 obtain ⟨ls, vs, lm, nm, h1, h2⟩ := h
 exact ⟨ls, vs, lm, nm, k _ h1, h2⟩
theorem ψ4.mono {B : Nat} {w0 : World} {g : G} {w w' : World} {b : Nat} {l : PLoc} (h : ψ4 B w0 g w b l) (k : ∀ cs, Blk w b tLoc cs → Blk w' b tLoc cs) : ψ4 B w0 g w' b l := by
 obtain ⟨ls, h1, h2⟩ := h
 exact ⟨ls, k _ h1, h2⟩
theorem φ4.mono {w0 : World} {x : PProf} {g : G} {w w' : World} {b : Nat} {l : PLoc} (h : φ4 w0 x g w b l) (k : ∀ cs, Blk w b tLoc cs → Blk w' b tLoc cs) (k2 : ∀ v, OS tLine 3 w0 v (l.lines.flatMap (cLine g.funs)) → Full x w v l.lines → Full x w' v l.lines) : φ4 w0 x g w' b l := by
 obtain ⟨ls, h1, h2, h3⟩ := h
 exact ⟨ls, k _ h1, h2, k2 _ h2 h3⟩
/-! ### rows of lines, whose function numbers are filled in -/
def LC (fid : Value → Int) (cs cs' : List Value) : Prop := cs'.length = cs.length ∧ ∀ (j : Nat), (j % 3 ≠ 2 → cs'[j]? = cs[j]?) ∧ (j % 3 = 2 → cs'[j]? = cs[j]? ∨ ∃ v, cs[j - 2]? = some v ∧ cs'[j]? = some (.int .u64 (fid v)))
theorem LC.refl {fid : Value → Int} {cs : List Value} : LC fid cs cs := ⟨rfl, fun _ => ⟨fun _ => rfl, fun _ => .inl rfl⟩⟩
theorem LC.set {fid : Value → Int} {cs cs' : List Value} {i : Nat} {v : Value} (h : LC fid cs cs') (hv : cs[i * 3]? = some v) (hl : i * 3 + 2 < cs.length) : LC fid cs (cs'.set (i * 3 + 2) (.int .u64 (fid v))) := by
 refine ⟨by simp [h.1], fun j => ⟨fun hj => ?_, fun hj => ?_⟩⟩
 ·rw [List.getElem?_set_ne (by omega)]; exact (h.2 j).1 hj
 ·by_cases he : i * 3 + 2 = j
  ·subst he
   exact .inr ⟨v, by simpa using hv, by rw [List.getElem?_set_self (by rw [h.1]; exact hl)]⟩
  ·rw [List.getElem?_set_ne he]; exact (h.2 j).2 hj
def LRel (fid : Value → Int) (w0 w : World) : Prop := ∀ b cs, Blk w0 b tLine cs → ∃ cs', Blk w b tLine cs' ∧ LC fid cs cs'
theorem LRel.keep {fid : Value → Int} {w0 w w' : World} (h : LRel fid w0 w) (k : ∀ b cs, Blk w b tLine cs → Blk w' b tLine cs) : LRel fid w0 w' := fun b cs hb => by
 obtain ⟨cs', h1, h2⟩ := h b cs hb
 exact ⟨cs', k _ _ h1, h2⟩
/-! ### the state -/
abbrev wP : List Nat := [tVT, tSam, tMap, tLoc, tLine, tFun]
structure PS (B : Nat) (w0 : World) (mb : Nat) (x : PProf) (g : G) (n1 n2 n3 n4 n5 : Nat) (T : List ByteArray) (w : World) : Prop where
 tab : Tab w mb (allS x) T
 zero : T[0]? = some eB
 fr : Fr B wP w0 w
 pt : Pg n1 g.types x.types (φ1 T w) (φT w)
 ps : Pg n2 g.sams x.samples (φ2 w0 T x w) (ψ2 w0 g.locs w)
 pm : Pg n3 g.maps x.mappings (φ3 T w) (φM w)
 pl : Pg n4 g.locs x.locs (φ4 w0 x g w) (ψ4 B w0 g w)
 pf : Pg n5 g.funs x.funcs (φ5 T w) (φF w)
 per : Blk w g.per tVT (cVT x.per)
 lines : LRel (fidV x g) w0 w
theorem Full.keep {x : PProf} {w w' : World} {v : Value} {lines : List PLine} (h : Full x w v lines) (k : ∀ b cs, Blk w b tLine cs → Blk w' b tLine cs) {w0 : World} {fid : Value → Int} (hL : LRel fid w0 w) {cs : List Value} (hv : OS tLine 3 w0 v cs) (hl : lines.length * 3 ≤ cs.length) : Full x w' v lines := by
 intro p l c rb e1 e2 i n hn
 have h1 := h p l c rb e1 e2 i n hn
 obtain ⟨y, p', l', c', e3, hO, hy⟩ := hv
 rw [e1] at e3
 cases e3
 have hll : 0 < l := by
  have := hO.sl.1
  have := (List.getElem?_eq_some_iff.1 hn).1
  omega
 obtain ⟨hon, hp⟩ := hO.pos hll
 rw [e2] at hp
 obtain rfl : rb = y.b := by cases hp; rfl
 obtain ⟨cs', h2, -⟩ := hL _ _ (hy hon)
 rw [h2.cell] at h1
 rw [(k _ _ h2).cell]
 exact h1
theorem PS.keep {B : Nat} {w0 : World} {mb : Nat} {x : PProf} {g : G} {n1 n2 n3 n4 n5 : Nat} {T : List ByteArray} {w w' : World} (h : PS B w0 mb x g n1 n2 n3 n4 n5 T w) (k : Fr 0 [] w w') : PS B w0 mb x g n1 n2 n3 n4 n5 T w' := by
 have kr := fun (b : Nat) (T : Nat) (cs : List Value) (hb : Blk w b T cs) => k.blk hb (.inr (by simp))
 exact ⟨h.tab.keep fun es ck hm => k.keep _ _ hm (.inr (by simp)), h.zero, h.fr.trans (k.quiet B wP) (.inr ⟨Nat.le_refl _, fun _ h => h⟩),
  h.pt.mono (fun b x hh => hh.mono (List.prefix_refl _) fun cs => kr _ _ cs) (fun b x hh => kr _ _ _ hh),
  h.ps.mono (fun b x hh => hh.mono (List.prefix_refl _) (fun cs => kr _ _ cs) (fun c cs => kr _ _ cs) (fun c cs => kr _ _ cs)) (fun b x hh => hh.mono fun cs => kr _ _ cs),
  h.pm.mono (fun b x hh => hh.mono (List.prefix_refl _) fun cs => kr _ _ cs) (fun b x hh => kr _ _ _ hh),
  h.pl.mono (fun b x hh => hh.mono (fun cs => kr _ _ cs) fun v hv hf => hf.keep (fun b cs => kr _ _ cs) h.lines hv (by rw [flatMap_len (sz := 3) (fun _ => rfl)]; exact Nat.le_refl _)) (fun b x hh => hh.mono fun cs => kr _ _ cs),
  h.pf.mono (fun b x hh => hh.mono (List.prefix_refl _) fun cs => kr _ _ cs) (fun b x hh => kr _ _ _ hh), kr _ _ _ h.per, h.lines.keep fun b cs => kr _ _ cs⟩
end Go.Proofs.YtifnhinopjgfaaaGreat
