/-
  Calls that turn few blocks and no other: all the rest of the memory as one read-only heap. Conditions: none.
-/
import Derived.Test.YtifnhinopjgfaaaGreatFwK
namespace Go.Fw
open Go

/-- what was is so still, but for the blocks of a list -/
structure KeepX (l : List Nat) (w w' : World) : Prop where
 os : w'.os = w.os
 tape : w'.tape = w.tape
 output : w'.output = w.output
 size : w.heap.size ≤ w'.heap.size
 keep : ∀ (b : Nat) (o : Obj), w.heap[b]? = some o → b ∉ l → w'.heap[b]? = some o
theorem KeepX.refl {l : List Nat} {w : World} : KeepX l w w := ⟨rfl, rfl, rfl, Nat.le_refl _, fun _ _ h _ => h⟩
theorem KeepX.trans {l m : List Nat} {w w1 w2 : World} (h : KeepX l w w1) (k : KeepX m w1 w2) : KeepX (l ++ m) w w2 :=
 ⟨k.os.trans h.os, k.tape.trans h.tape, k.output.trans h.output, Nat.le_trans h.size k.size, fun b o hb hn => by
  simp only [List.mem_append, not_or] at hn
  exact k.keep b o (h.keep b o hb hn.1) hn.2⟩
theorem KeepX.blk {l : List Nat} {w w' : World} {b T : Nat} {cs : List Value} (h : KeepX l w w') (hb : Blk w b T cs) (hn : b ∉ l) : Blk w' b T cs := h.keep b _ hb hn
theorem KeepX.of {w w' : World} (h : Fr 0 [] w w') : KeepX [] w w' := ⟨h.os, h.tape, h.output, h.size, fun b o hb _ => h.keep b o hb (.inr (by simp))⟩
/-- such a change, by tags -/
theorem KeepX.fr {l : List Nat} {w w' : World} {B : Nat} {W : List Nat} (h : KeepX l w w') (hl : ∀ b ∈ l, ∀ o : Obj, w.heap[b]? = some o → B ≤ b ∧ tagOf o ∈ W) : Fr B W w w' :=
 ⟨h.os, h.tape, h.output, h.size, fun b o hb hc => h.keep b o hb fun hm => by
  have := hl b hm o hb
  rcases hc with hc | hc
  ·omega
  ·exact hc this.2⟩

theorem KeepX.drop {l m : List Nat} {w w' : World} (h : KeepX l w w') (hl : ∀ b ∈ l, b ∈ m ∨ w.heap.size ≤ b) : KeepX m w w' := ⟨h.os, h.tape, h.output, h.size, fun b o hb hn => h.keep b o hb fun hm => by
 rcases hl b hm with h1 | h1
 ·exact hn h1
 ·have := (Array.getElem?_eq_some_iff.1 hb).1; omega⟩
/-- all of the memory but for some blocks, read only -/
def restH (w : World) (l : List Nat) : Heap := ((List.range w.heap.size).filter fun b => !l.contains b).map fun b => ⟨b, 0, [], false, false, w.heap[b]?⟩
theorem restH_mem {w : World} {l : List Nat} {x : Ent} (h : x ∈ restH w l) : ∃ b, b < w.heap.size ∧ b ∉ l ∧ x = ⟨b, 0, [], false, false, w.heap[b]?⟩ := by
 obtain ⟨b, hb, rfl⟩ := List.mem_map.1 h
 simp at hb
 exact ⟨b, hb.1, hb.2, rfl⟩
theorem Hp.range {f : Fm} {w : World} : ∀ {bs : List Nat}, bs.Nodup → Hp f w (bs.map fun b => ⟨b, 0, [], false, false, w.heap[b]?⟩)
 | [], _ => trivial
 | b :: r, h => ⟨⟨fun h => (by cases h), fun o ho => ho⟩, fun _ h => (by cases h), fun _ y hy _ => by
   obtain ⟨c, hc, rfl⟩ := List.mem_map.1 hy
   have := (List.nodup_cons.1 h).1
   rintro rfl
   exact this hc, Hp.range (List.nodup_cons.1 h).2⟩
theorem Hp.rest {f : Fm} {w : World} (l : List Nat) : Hp f w (restH w l) := Hp.range (List.nodup_range.filter _)
theorem rest_ne {w : World} {l : List Nat} {b : Nat} (hb : b ∈ l) : ∀ y ∈ restH w l, y.ex = true → y.b ≠ b := by
 intro y hy _ he
 obtain ⟨c, -, hc, rfl⟩ := restH_mem hy
 simp only at he
 subst he
 exact hc hb
theorem Hp.restKeep {f : Fm} {w w' : World} {l : List Nat} (h : Hp f w' (restH w l)) (b : Nat) (o : Obj) (hb : w.heap[b]? = some o) (hn : b ∉ l) : w'.heap[b]? = some o := by
 have hlt := (Array.getElem?_eq_some_iff.1 hb).1
 have hm : (⟨b, 0, [], false, false, w.heap[b]?⟩ : Ent) ∈ restH w l := by
  refine List.mem_map.2 ⟨b, ?_, rfl⟩
  simp [hlt, hn]
 exact (h.has hm).obj o hb
theorem Hp.keepX {f : Fm} {w w' : World} {l : List Nat} (h : Hp f w' (restH w l)) (hf : Fm.ok ⟨w, f.B, f.W⟩ w') : KeepX l w w' := ⟨hf.os, hf.tape, hf.output, hf.size, h.restKeep⟩
/-- one block and all the rest -/
theorem Hp.one {w : World} {B b T : Nat} {W : List Nat} {cs : List Value} (hb : Blk w b T cs) (hB : B ≤ b) (hT : W.any (fun t => Nat.beq t T) = true) : Hp ⟨w, B, W⟩ w (⟨b, T, cs, true, true, none⟩ :: restH w [b]) :=
 (Hp.rest [b]).add hb (fun _ => .inr ⟨hB, mem_of_any hT⟩) (rest_ne (by simp))
/-- one map and all the rest -/
theorem Hp.oneMap {w : World} {B b ck : Nat} {W : List Nat} {es : List MapEntry} (hb : w.heap[b]? = some (.map es.toArray ck)) (hB : B ≤ b) (hT : W.any (fun t => Nat.beq t 1000000) = true) : Hp ⟨w, B, W⟩ w (mpE b es ck :: restH w [b]) :=
 ⟨⟨fun h => (by cases h), fun o ho => by cases ho; exact hb⟩, fun _ _ => .inr ⟨hB, mem_of_any hT⟩, fun _ => rest_ne (by simp), Hp.rest [b]⟩
/-- a call with an exact frame, seen from a known heap: what it may turn is not known, or comes first -/
theorem Hp.keep {f : Fm} {w w' : World} {H : Heap} {l : List Nat} (h : Hp f w H) (k : KeepX l w w') (hn : ∀ x ∈ H, x.ex = true → x.b ∉ l) : Hp f w' H := h.mono fun x hx he o ho => k.keep _ o ho (hn x hx he)
section
variable {P : Program} {Q : Exit → Act → World → Prop} {n : Nat} {f : Fm} {e : Env} {H : Heap} {ops : Array Oper} {rest : List Oper} {d ty : Nat} {pos : String} {af : Array Edge}
end
/-! ### a drawn region's tail: from here on nothing is asked of what was readable -/
section
variable {P : Program} {Q : Exit → Act → World → Prop} {n : Nat} {f : Fm} {e : Env} {H : Heap} {ops : Array Oper} {nt : Nat} {HS : Heap} {r : Sched}
end
end Go.Fw
