/-
  Each part of a profile that is ready, encoded. Conditions: as each lemma states them.
-/
import Derived.Test.YtifnhinopjgfaaaGreatRl
namespace Go.Proofs.YtifnhinopjgfaaaGreat
open Go Go.Fw Go.Proofs Go.Proofs.Tryz
theorem EncAll.mk' {α : Type} {B bb : Nat} {u : World} {f : FuncId} {bs : List Nat} {xs : List α} {φ : Nat → α → Prop} {R : α → List Nat → Prop} (h : Each bs xs φ) (hn : xs.length ≤ 60) (hp : ∀ b x, x ∈ xs → φ b x → ∃ M, R x M ∧ Enc B bb u f (ptr b) M) : ∃ Ms, All2 xs Ms R ∧ EncAll B bb u f bs Ms := by
 obtain ⟨Ms, h1, h2⟩ := h.pick (R := fun b x M => R x M ∧ Enc B bb u f (ptr b) M) hp
 refine ⟨Ms, ⟨h1, fun i a M ha hM => ?_⟩, ⟨by rw [h.1, h1], fun i b M hb hM => ?_, by omega⟩⟩
 ·have hl := (List.getElem?_eq_some_iff.1 ha).1
  have hb : bs[i]? = some (bs[i]'(by rw [h.1]; exact hl)) := List.getElem?_eq_getElem _
  exact (h2 i _ a M hb ha hM).1
 ·have hl := (List.getElem?_eq_some_iff.1 hb).1
  have ha : xs[i]? = some (xs[i]'(by rw [← h.1]; exact hl)) := List.getElem?_eq_getElem _
  exact (h2 i b _ M hb ha hM).2
section
variable {B B0 bb : Nat} {w0 u : World} {x : PProf} {g : G} {T : List ByteArray}
theorem enc_types (hE : PreE B0 w0 u x g T) (hl : T.length ≤ 100000000) (hn : x.types.length ≤ 60) : ∃ Ms, All2 x.types Ms (MT T) ∧ EncAll B bb u 126 g.types Ms :=
 EncAll.mk' hE.types hn fun b t _ h => by
  obtain ⟨n, m, hb, h1, h2⟩ := h
  exact ⟨vtB n m, ⟨n, m, rfl, h1, h2⟩, fun w1 D hF hB hl' => vtEnc_c B w1 bb D n m (h1.wrap hl) (h2.wrap hl) (fr_row hF rfl _ _ hb) hB (by omega)⟩
theorem enc_maps (hE : PreE B0 w0 u x g T) (hr : Rng x) (hl : T.length ≤ 100000000) (hn : x.mappings.length ≤ 60) : ∃ Ms, All2 x.mappings Ms (MM T) ∧ EncAll B bb u 128 g.maps Ms :=
 EncAll.mk' hE.maps hn fun b t ht h => by
  obtain ⟨n, k, hb, h1, h2⟩ := h
  obtain ⟨r1, r2, r3, r4⟩ := hr.maps t ht
  have q1 := u64_range r1
  have q2 := u64_range r2
  have q3 := u64_range r3
  have q4 := u64_range r4
  refine ⟨_, ⟨n, k, rfl, h1, h2⟩, fun w1 D hF hB hl' => mpEnc_c B w1 bb D t.id.toNat t.start.toNat t.limit.toNat t.offset.toNat n k t.fu t.fi t.li t.inl (by omega) (by omega) (by omega) (by omega) (h1.wrap hl) (h2.wrap hl) (b := b) (fi := t.file) (bu := t.build) ?_ hB (by omega)⟩
  simp only [Int.toNat_of_nonneg q1.1, Int.toNat_of_nonneg q2.1, Int.toNat_of_nonneg q3.1, Int.toNat_of_nonneg q4.1]
  exact fr_row hF rfl _ _ hb
theorem enc_funs (hE : PreE B0 w0 u x g T) (hr : Rng x) (hl : T.length ≤ 100000000) (hn : x.funcs.length ≤ 60) : ∃ Ms, All2 x.funcs Ms (MF T) ∧ EncAll B bb u 133 g.funs Ms :=
 EncAll.mk' hE.funs hn fun b t ht h => by
  obtain ⟨n, k, i, hb, h1, h2, h3⟩ := h
  obtain ⟨r1, r2⟩ := hr.funs t ht
  have q1 := u64_range r1
  refine ⟨_, ⟨n, k, i, rfl, h1, h2, h3⟩, fun w1 D hF hB hl' => fnEnc_c B w1 bb D t.id.toNat n k i t.start (by omega) (h1.wrap hl) (h2.wrap hl) (h3.wrap hl) r2 (b := b) (na := t.name) (sy := t.system) (fi := t.file) ?_ hB (by omega)⟩
  simp only [Int.toNat_of_nonneg q1.1]
  exact fr_row hF rfl _ _ hb
/-- a location's lines, as they stand when they are ready -/
def lnsX (x : PProf) (g : G) (l : PLoc) : List (Value × Int × Nat) := l.lines.map fun n => (ptrAt g.funs n.fn, n.line, (fnid x n.fn).toNat)
theorem os_lines (hr : Rng x) (hL : LRel (fidV x g) w0 u) {ls : Value} {l : PLoc} (hos : OS tLine 3 w0 ls (l.lines.flatMap (cLine g.funs))) (hF : Full x u ls l.lines) : OS tLine 3 u ls ((lnsX x g l).flatMap cLn) := by
 obtain ⟨y, p, n, c, rfl, hO, hy⟩ := hos
 have hl1 : (l.lines.flatMap (cLine g.funs)).length = l.lines.length * 3 := flatMap_len (sz := 3) (fun _ => rfl) _
 have hl2 : ((lnsX x g l).flatMap cLn).length = l.lines.length * 3 := by rw [flatMap_len (c := cLn) (sz := 3) (fun _ => rfl)]; simp [lnsX]
 obtain ⟨s1, s2, s3⟩ := hO.sl
 rcases s3 with ⟨hon, hp, ⟨ex, hex⟩, hc⟩ | ⟨hon, hp, hc⟩
 ·obtain ⟨cs', hb, hlc⟩ := hL _ _ (hy hon)
  refine ⟨{ y with cs := cs' }, p, n, c, rfl, ⟨hO.hT, hO.hw, hO.ho, by rw [hl2, ← hl1]; exact s1, s2, .inl ⟨hon, hp, ⟨cs'.drop (l.lines.length * 3), ?_⟩, by simp only; rw [hlc.1]; exact hc⟩⟩, fun _ => hb⟩
  have hcl : l.lines.length * 3 ≤ cs'.length := by rw [hlc.1, hex, List.length_append]; omega
  have key : cs'.take (l.lines.length * 3) = (lnsX x g l).flatMap cLn := by
   apply List.ext_getElem?
   intro j
   by_cases hj : j < l.lines.length * 3
   ·rw [List.getElem?_take_of_lt hj]
    have hi : j / 3 < l.lines.length := by omega
    have hlx : (lnsX x g l)[j / 3]? = some (ptrAt g.funs l.lines[j / 3].fn, l.lines[j / 3].line, (fnid x l.lines[j / 3].fn).toNat) := by simp [lnsX, hi]
    have hg := flatMap_get (c := cLn) (sz := 3) (fun _ => rfl) hlx (j % 3)
    have hg0 := flatMap_get (c := cLine g.funs) (sz := 3) (fun _ => rfl) (List.getElem?_eq_getElem hi) (j % 3)
    have hjj : j / 3 * 3 + j % 3 = j := by omega
    rw [hjj] at hg hg0
    have h3 : j % 3 = 0 ∨ j % 3 = 1 ∨ j % 3 = 2 := by omega
    rcases h3 with h3 | h3 | h3
    ·rw [(hlc.2 j).1 (by omega), hex, List.getElem?_append_left (by omega), hg0 (ptrAt g.funs l.lines[j / 3].fn) (by rw [h3]; rfl), hg (ptrAt g.funs l.lines[j / 3].fn) (by rw [h3]; rfl)]
    ·rw [(hlc.2 j).1 (by omega), hex, List.getElem?_append_left (by omega), hg0 (.int .i64 l.lines[j / 3].line) (by rw [h3]; rfl), hg (.int .i64 l.lines[j / 3].line) (by rw [h3]; rfl)]
    ·have h4 := hF p n c y.b rfl hp (j / 3) _ (List.getElem?_eq_getElem hi)
     rw [hb.cell, show j / 3 * 3 + 2 = j by omega] at h4
     rw [h4, hg (.int .u64 ((fnid x l.lines[j / 3].fn).toNat : Nat)) (by rw [h3]; rfl), Int.toNat_of_nonneg (hr.fnid _).1]
   ·rw [List.getElem?_eq_none (by simp; omega), List.getElem?_eq_none (by omega)]
  rw [← key, List.take_append_drop]
 ·have hn0 : n = 0 := by omega
  have hz : l.lines.length = 0 := by omega
  refine ⟨y, p, n, c, rfl, ⟨hO.hT, hO.hw, hO.ho, by rw [hl2, ← hl1]; exact s1, s2, .inr ⟨hon, hp, hc⟩⟩, fun h => by rw [hon] at h; cases h⟩
theorem enc_locs (hE : PreE B0 w0 u x g T) (hr : Rng x) (hx : WellP x) (hn : x.locs.length ≤ 60) : ∃ Ms, All2 x.locs Ms (ML x) ∧ EncAll B bb u 135 g.locs Ms :=
 EncAll.mk' hE.locs hn fun b t ht h => by
  obtain ⟨ls, hb, hos, hF⟩ := h
  obtain ⟨r1, r2, r3⟩ := hr.locs t ht
  have q1 := u64_range r1
  have q2 := u64_range r2
  have q3 := hr.mid t.mapping
  have hlen := (hx.tab.locs t ht).2.1
  obtain ⟨mp, hmp⟩ : ∃ mp, ptrAt g.maps t.mapping = .pointer mp := ⟨_, rfl⟩
  rw [hmp] at hb
  have hq : LnOK (lnsX x g t) := ⟨fun q hq => by
   obtain ⟨n, hn, rfl⟩ := List.mem_map.1 hq
   have := hr.fnid n.fn
   exact ⟨by simp only; omega, r3 n hn⟩, by simp [lnsX]; omega⟩
  have := lcEnc_c B u bb b t.id.toNat (mid x t.mapping).toNat t.addr.toNat mp ls false (lnsX x g t) (by omega) (by omega) (by omega) hq (by
   simp only [Int.toNat_of_nonneg q1.1, Int.toNat_of_nonneg q2.1, Int.toNat_of_nonneg q3.1]; exact hb) (os_lines hr hE.lines hos hF)
  refine ⟨_, rfl, ?_⟩
  have e : lcB t.id.toNat (mid x t.mapping).toNat t.addr.toNat (lnsX x g t) = optB 1 t.id.toNat ++ (optB 2 (mid x t.mapping).toNat ++ (optB 3 t.addr.toNat ++ msB 4 (t.lines.map fun n => lnB (fnid x n.fn).toNat n.line))) := by
   unfold lcB lnsX
   rw [List.map_map]; rfl
  rw [← e]; exact this
theorem labE_len {s : PSample} (h : LabP s) : (labE s).length ≤ 7200 := by
 have h0 : (s.texts.flatMap labE1).length ≤ 60 * s.texts.length := flatMap_bound fun t ht => by
  simp only [labE1, List.length_map]
  exact (h.tl t ht).2.1
 have h1 : (s.nums.flatMap labE2).length ≤ 60 * s.nums.length := flatMap_bound fun t ht => by
  simp only [labE2, List.length_map]
  exact (h.nl t ht).2
 have h3 := h.nlen
 have h4 := h.tlen
 simp only [labE, List.length_append]
 omega
theorem LbR.wraps {lbs : List (Int × Int × Int)} {s : PSample} (h : LbR T lbs (labE s)) (hl : T.length ≤ 100000000) (hz : ∀ t ∈ s.nums, ∀ z ∈ t.list, IntKind.i64.wrap z = z) : ∀ q ∈ lbs, IntKind.i64.wrap q.1 = q.1 ∧ IntKind.i64.wrap q.2.1 = q.2.1 ∧ IntKind.i64.wrap q.2.2 = q.2.2 := by
 intro q hq
 obtain ⟨i, hi⟩ := List.mem_iff_getElem?.1 hq
 have hil := (List.getElem?_eq_some_iff.1 hi).1
 have he : (labE s)[i]? = some ((labE s)[i]'(by rw [← h.1]; exact hil)) := List.getElem?_eq_getElem _
 obtain ⟨h1, h2⟩ := h.2 i _ _ hi he
 refine ⟨h1.wrap hl, ?_⟩
 have hm := List.mem_of_getElem? he
 generalize (labE s)[i]'(by rw [← h.1]; exact hil) = e at *
 simp only [labE, List.mem_append, List.mem_flatMap] at hm
 rcases hm with ⟨t, ht, hm⟩ | ⟨t, ht, hm⟩
 ·obtain ⟨v, hv, rfl⟩ := List.mem_map.1 hm
  obtain ⟨h2, h3⟩ := h2
  exact ⟨h2.wrap hl, by rw [h3]; rfl⟩
 ·obtain ⟨v, hv, rfl⟩ := List.mem_map.1 hm
  obtain ⟨h2, h3⟩ := h2
  simp only at h3
  exact ⟨by rw [h2]; rfl, by rw [h3]; exact hz t ht v hv⟩
theorem enc_sams (hE : PreE B0 w0 u x g T) (hr : Rng x) (hx : WellP x) (hl : T.length ≤ 100000000) (hn : x.samples.length ≤ 60) : ∃ Ms, All2 x.samples Ms (MS T x) ∧ EncAll B bb u 137 g.sams Ms :=
 EncAll.mk' hE.sams hn fun b t ht h => by
  obtain ⟨ls, vs, lm, nm, iv, xv, lbs, hb, hv, hi, hxv, hlb⟩ := h
  obtain ⟨r1, r2, r3, r4, r5⟩ := hx.samples t ht
  have hv' : OS tI64 1 u vs (t.values.map (.int .i64)) := hv.mono (fr_row hE.fr rfl)
  have hi' : OS tU64 1 u iv ((t.stack.map fun z => (lid x z).toNat).map fun (n : Nat) => Value.int .u64 (n : Int)) := by
   rw [List.map_map]
   have e : (t.stack.map fun z => Value.int .u64 (lid x z)) = t.stack.map ((fun (n : Nat) => Value.int .u64 (n : Int)) ∘ fun z => (lid x z).toNat) := List.map_congr_left fun z _ => by
    simp only [Function.comp_apply, Int.toNat_of_nonneg (hr.lid z).1]
   rw [← e]; exact hi
  have hlbl : lbs.length ≤ 7200 := by rw [hlb.1]; exact labE_len r4
  have hq : SmOK (t.stack.map fun z => (lid x z).toNat) t.values lbs := ⟨fun n hn => by
   obtain ⟨z, hz, rfl⟩ := List.mem_map.1 hn
   have := hr.lid z
   omega, hlb.wraps hl (hr.nums t ht), by simp; omega, by have := hx.ntyp; omega, by omega⟩
  exact ⟨_, ⟨lbs, hlb, rfl⟩, smEnc_c B u bb b ls vs lm nm (.map none) iv xv _ _ lbs hq hb hi' hv' hxv⟩
end
end Go.Proofs.YtifnhinopjgfaaaGreat
