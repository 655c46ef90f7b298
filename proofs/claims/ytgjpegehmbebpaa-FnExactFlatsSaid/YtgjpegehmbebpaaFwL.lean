/-
  Calls that turn few blocks and no other: all the rest of the memory as one read-only heap. Conditions: none.
-/
import Derived.Test.YtgjpegehmbebpaaFwK
namespace Go.Fw
open Go

/-- what was is so still, but for the blocks of a list -/
structure KeepX (l : List Nat) (w w' : World) : Prop where
  os : w'.os = w.os
  tape : w'.tape = w.tape
  output : w'.output = w.output
  size : w.heap.size ≤ w'.heap.size
  keep : ∀ (b : Nat) (o : Obj), w.heap[b]? = some o → b ∉ l → w'.heap[b]? = some o
theorem KeepX.refl {l : List Nat} {w : World} : KeepX l w w := ⟨rfl, rfl, rfl, Nat.le_refl _, fun _ _ h _ => h⟩
theorem KeepX.trans {l m : List Nat} {w w1 w2 : World} (h : KeepX l w w1) (k : KeepX m w1 w2) : KeepX (l ++ m) w w2 :=
  ⟨k.os.trans h.os, k.tape.trans h.tape, k.output.trans h.output, Nat.le_trans h.size k.size, fun b o hb hn => by
    simp only [List.mem_append, not_or] at hn
    exact k.keep b o (h.keep b o hb hn.1) hn.2⟩
theorem KeepX.blk {l : List Nat} {w w' : World} {b T : Nat} {cs : List Value} (h : KeepX l w w') (hb : Blk w b T cs) (hn : b ∉ l) : Blk w' b T cs := h.keep b _ hb hn
theorem KeepX.of {w w' : World} (h : Fr 0 [] w w') : KeepX [] w w' := ⟨h.os, h.tape, h.output, h.size, fun b o hb _ => h.keep b o hb (.inr (by simp))⟩
/-- such a change, by tags -/
theorem KeepX.fr {l : List Nat} {w w' : World} {B : Nat} {W : List Nat} (h : KeepX l w w') (hl : ∀ b ∈ l, ∀ o : Obj, w.heap[b]? = some o → B ≤ b ∧ tagOf o ∈ W) : Fr B W w w' :=
  ⟨h.os, h.tape, h.output, h.size, fun b o hb hc => h.keep b o hb fun hm => by
    have := hl b hm o hb
    rcases hc with hc | hc
    · omega
    · exact hc this.2⟩

theorem KeepX.drop {l m : List Nat} {w w' : World} (h : KeepX l w w') (hl : ∀ b ∈ l, b ∈ m ∨ w.heap.size ≤ b) : KeepX m w w' := ⟨h.os, h.tape, h.output, h.size, fun b o hb hn => h.keep b o hb fun hm => by
  rcases hl b hm with h1 | h1
  · exact hn h1
  · have := (Array.getElem?_eq_some_iff.1 hb).1; omega⟩
/-- all of the memory but for some blocks, read only -/
def restH (w : World) (l : List Nat) : Heap := ((List.range w.heap.size).filter fun b => !l.contains b).map fun b => ⟨b, 0, [], false, false, w.heap[b]?⟩
theorem restH_mem {w : World} {l : List Nat} {x : Ent} (h : x ∈ restH w l) : ∃ b, b < w.heap.size ∧ b ∉ l ∧ x = ⟨b, 0, [], false, false, w.heap[b]?⟩ := by
  obtain ⟨b, hb, rfl⟩ := List.mem_map.1 h
  simp at hb
  exact ⟨b, hb.1, hb.2, rfl⟩
theorem Hp.range {f : Fm} {w : World} : ∀ {bs : List Nat}, bs.Nodup → Hp f w (bs.map fun b => ⟨b, 0, [], false, false, w.heap[b]?⟩)
  | [], _ => trivial
  | b :: r, h => ⟨⟨fun h => (by cases h), fun o ho => ho⟩, fun _ h => (by cases h), fun _ y hy _ => by
      obtain ⟨c, hc, rfl⟩ := List.mem_map.1 hy
      have := (List.nodup_cons.1 h).1
      rintro rfl
      exact this hc, Hp.range (List.nodup_cons.1 h).2⟩
theorem Hp.rest {f : Fm} {w : World} (l : List Nat) : Hp f w (restH w l) := Hp.range (List.nodup_range.filter _)
theorem rest_ne {w : World} {l : List Nat} {b : Nat} (hb : b ∈ l) : ∀ y ∈ restH w l, y.ex = true → y.b ≠ b := by
  intro y hy _ he
  obtain ⟨c, -, hc, rfl⟩ := restH_mem hy
  simp only at he
  subst he
  exact hc hb
theorem Hp.restKeep {f : Fm} {w w' : World} {l : List Nat} (h : Hp f w' (restH w l)) (b : Nat) (o : Obj) (hb : w.heap[b]? = some o) (hn : b ∉ l) : w'.heap[b]? = some o := by
  have hlt := (Array.getElem?_eq_some_iff.1 hb).1
  have hm : (⟨b, 0, [], false, false, w.heap[b]?⟩ : Ent) ∈ restH w l := by
    refine List.mem_map.2 ⟨b, ?_, rfl⟩
    simp [hlt, hn]
  exact (h.has hm).obj o hb
theorem Hp.keepX {f : Fm} {w w' : World} {l : List Nat} (h : Hp f w' (restH w l)) (hf : Fm.ok ⟨w, f.B, f.W⟩ w') : KeepX l w w' := ⟨hf.os, hf.tape, hf.output, hf.size, h.restKeep⟩
/-- one block and all the rest -/
theorem Hp.one {w : World} {B b T : Nat} {W : List Nat} {cs : List Value} (hb : Blk w b T cs) (hB : B ≤ b) (hT : W.any (fun t => Nat.beq t T) = true) : Hp ⟨w, B, W⟩ w (⟨b, T, cs, true, true, none⟩ :: restH w [b]) :=
  (Hp.rest [b]).add hb (fun _ => .inr ⟨hB, mem_of_any hT⟩) (rest_ne (by simp))
/-- one map and all the rest -/
theorem Hp.oneMap {w : World} {B b ck : Nat} {W : List Nat} {es : List MapEntry} (hb : w.heap[b]? = some (.map es.toArray ck)) (hB : B ≤ b) (hT : W.any (fun t => Nat.beq t 1000000) = true) : Hp ⟨w, B, W⟩ w (mpE b es ck :: restH w [b]) :=
  ⟨⟨fun h => (by cases h), fun o ho => by cases ho; exact hb⟩, fun _ _ => .inr ⟨hB, mem_of_any hT⟩, fun _ => rest_ne (by simp), Hp.rest [b]⟩
/-- a call with an exact frame, seen from a known heap: what it may turn is not known, or comes first -/
theorem Hp.keep {f : Fm} {w w' : World} {H : Heap} {l : List Nat} (h : Hp f w H) (k : KeepX l w w') (hn : ∀ x ∈ H, x.ex = true → x.b ∉ l) : Hp f w' H := h.mono fun x hx he o ho => k.keep _ o ho (hn x hx he)
section
variable {P : Program} {Q : Exit → Act → World → Prop} {n : Nat} {f : Fm} {e : Env} {H : Heap} {ops : Array Oper} {rest : List Oper} {d ty : Nat} {pos : String} {af : Array Edge}
/-- append(s, v), with what became of the old row: written in place, or left as it was -/
theorem j_appF {sT T by_ l c : Nat} {s x : Operand} {y : Ent} {p : Option Addr} {xs : List Value} {v : Value} {bz Tz : Nat} (i : Nat) (hy : H[i]? = some y) (hO : Own T 1 y p l c xs)
    (hu : ∀ w, (underlying sT).run P w = .ok (.slice T) w) (hT : ElT P T 1 by_) (hby : Nat.ble by_ 1000 = true)
    (hs : ev e s = some (.slice p l c)) (hxv : ev e x = some (.slice (some ⟨bz, 0, none⟩) 1 1)) (hsc : scal v = true) (hbig : l + 1 ≤ 100000000000) (hd : Nat.blt d n = true)
    (k1 : y.on = true → l + 1 ≤ c → J P ops Q n f ((d, .slice p (l + 1) c) :: e) (putH H i ⟨y.b, T, setL y.cs l [v], true, true, none⟩) rest)
    (k2 : ∀ (b' : Nat) (cs' : List Value) (c' : Nat), l + 1 ≤ c' → cs'.length = c' → (∀ (j : Nat) (u : Value), (xs ++ [v])[j]? = some u → cs'[j]? = some u) → J P ops Q n f ((d, .slice (some ⟨b', 0, none⟩) (l + 1) c') :: e) (⟨b', T, cs', true, true, none⟩ :: H) rest) :
    J P ops Q n f e (⟨bz, Tz, [v], true, true, none⟩ :: H) (⟨some d, .call ⟨.builtin .append, #[s, x], #[sT, sT]⟩, ty, pos, af, none⟩ :: rest) := fun w hH0 hf => by
  have hH := hH0.2.2.2
  have hbz : Blk w bz Tz [v] := hH0.1.row rfl
  obtain ⟨y', p', c', w', hr, h1, h2, h3, h4⟩ := run_append (P := P) (rt := ty) (m := 1) (x := .slice (some ⟨bz, 0, none⟩) 1 1) (ys := [v]) hu hu (.inl ⟨_, rfl⟩) hT (by simpa using hby) hO.hT (fun ho => hH.get hy ho) hO.hw hO.sl (lenOf_slice _ _ _)
    (fun w1 hk => fc_blk (show Blk w1 bz Tz [v] from hk _ _ hbz) rfl rfl) rfl (by simp [hsc]) (by omega)
  have hx1 : xs.length = l := by have := hO.sl.1; omega
  have key : ∀ (H' : Heap) (q : Option Addr) (cq : Nat), p' = q → c' = cq → Hp f w' H' → f.ok w' → J P ops Q n f ((d, .slice q (l + 1) cq) :: e) H' rest → L P ops Q n e (⟨some d, .call ⟨.builtin .append, #[s, x], #[sT, sT]⟩, ty, pos, af, none⟩ :: rest) w := by
    rintro H' q cq rfl rfl h5 h6 k
    refine L.valw hd (fun a ha => ?_) (k w' h5 h6)
    simp only [execOp, resolve]
    simp [invoke, builtin, ha.ev hs, ha.ev hxv, hr]
  obtain ⟨g1, g2, g3⟩ := h3
  have happ := hH.app hf hy hO.ho hO.hw h4
  cases h4 with
  | same a b c => simp at c
  | inplace hon hb hu hs' =>
    have hp : p = some ⟨y.b, 0, none⟩ := by
      obtain ⟨-, -, q⟩ := hO.sl
      rcases q with q | ⟨q, -⟩
      · exact q.2.1
      · rw [hon] at q; cases q
    have hc : y.cs.length = c := by
      obtain ⟨-, -, q⟩ := hO.sl
      rcases q with q | ⟨q, -⟩
      · have := q.2.2.2; omega
      · rw [hon] at q; cases q
    have hon' : y'.on = true := by rw [hb]
    rcases g3 with ⟨-, g4, -, g5⟩ | ⟨g4, -⟩
    · have hyb : y'.b = y.b := by rw [hb]
      have hyy : y' = ⟨y.b, T, setL y.cs l [v], true, true, none⟩ := by rw [hb, hs', hx1, hO.hT]
      refine key _ p c (by rw [g4, hyb, hp]) (by rw [hs', setL_length] at g5; omega) ?_ happ.2 (k1 hon (by rw [hs', setL_length] at g5; omega))
      rw [← hyy]; exact happ.1
    · rw [hon'] at g4; cases g4
  | fresh hy' hn =>
    have hon' : y'.on = true := by rw [hy']
    rcases g3 with ⟨-, g4, ⟨ex, g6⟩, g5⟩ | ⟨g4, -⟩
    · refine key _ (some ⟨y'.b, 0, none⟩) c' g4 rfl (hH.new hf hn) (hf.new hn) ?_
      rw [h1]
      refine k2 y'.b y'.cs c' g2 (by omega) fun j u hj => ?_
      rw [g6, List.getElem?_append_left (List.getElem?_eq_some_iff.1 hj).1]; exact hj
    · rw [hon'] at g4; cases g4
/-- the same, behind a first entry that stays in front -/
theorem j_appG {sT T by_ l c : Nat} {s z : Operand} {x y : Ent} {H0 : Heap} {p : Option Addr} {xs : List Value} {v : Value} {bz Tz : Nat} (i : Nat) (hy : H0[i]? = some y) (hO : Own T 1 y p l c xs)
    (hu : ∀ w, (underlying sT).run P w = .ok (.slice T) w) (hT : ElT P T 1 by_) (hby : Nat.ble by_ 1000 = true)
    (hs : ev e s = some (.slice p l c)) (hxv : ev e z = some (.slice (some ⟨bz, 0, none⟩) 1 1)) (hsc : scal v = true) (hbig : l + 1 ≤ 100000000000) (hd : Nat.blt d n = true)
    (k : ∀ H0' p' c', ((y.on = true ∧ l + 1 ≤ c ∧ p' = p ∧ c' = c ∧ H0' = putH H0 i ⟨y.b, T, setL y.cs l [v], true, true, none⟩) ∨
      ∃ (b' : Nat) (cs' : List Value), p' = some ⟨b', 0, none⟩ ∧ l + 1 ≤ c' ∧ cs'.length = c' ∧ (∀ (j : Nat) (u : Value), (xs ++ [v])[j]? = some u → cs'[j]? = some u) ∧ H0' = ⟨b', T, cs', true, true, none⟩ :: H0) → J P ops Q n f ((d, .slice p' (l + 1) c') :: e) (x :: H0') rest) :
    J P ops Q n f e (⟨bz, Tz, [v], true, true, none⟩ :: x :: H0) (⟨some d, .call ⟨.builtin .append, #[s, z], #[sT, sT]⟩, ty, pos, af, none⟩ :: rest) :=
  j_appF (H := x :: H0) (i + 1) (by simpa using hy) hO hu hT hby hs hxv hsc hbig hd (fun hon hlc => k _ p c (.inl ⟨hon, hlc, rfl, rfl, rfl⟩)) fun b' cs' c' h1 h2 h3 =>
    J.heap (x :: ⟨b', T, cs', true, true, none⟩ :: H0) (fun w hH _ => hH.swap) (k _ _ c' (.inr ⟨b', cs', rfl, h1, h2, h3, rfl⟩))
end
/-! ### a drawn region's tail: from here on nothing is asked of what was readable -/
def tailS (nt : Nat) (r : Sched) : Bool := r.all fun p => !p.2 && !Nat.blt p.1 nt
theorem wpS_tail {P : Program} {ops : Array Oper} {Q : Exit → Act → World → Prop} {S S' : World → Prop} {nt : Nat} : ∀ {r : Sched} {a : Act} {w : World}, tailS nt r = true → wpS P ops Q S nt r a w → wpS P ops Q S' nt r a w
  | [], _, _, _, h => h
  | (i, true) :: r, _, _, ht, _ => by simp [tailS] at ht
  | (i, false) :: r, a, w, ht, h => by
    have h1 : ¬ i < nt := fun hlt => by
      simp only [tailS, List.all_cons, Bool.and_eq_true] at ht
      have h3 : Nat.blt i nt = true := by simpa using hlt
      have h4 := ht.1.2
      rw [h3] at h4; cases h4
    have h2 : tailS nt r = true := by simp only [tailS, List.all_cons, Bool.and_eq_true] at ht ⊢; exact ht.2
    exact wpOp_mono (fun a' w' hh => ⟨fun hlt => absurd hlt h1, wpS_tail h2 hh.2⟩) h
section
variable {P : Program} {Q : Exit → Act → World → Prop} {n : Nat} {f : Fm} {e : Env} {H : Heap} {ops : Array Oper} {nt : Nat} {HS : Heap} {r : Sched}
theorem dj_effT {i : Nat} {o : Oper} (hi : ops[i]? = some o) (hn : Nat.blt i nt = false) (hr : tailS nt r = true)
    (h : ∀ K : Act → World → Prop, (∀ f' e H, DJ P ops Q f' HS nt n e H r → NJ K n f' e H) → J P ops (Exit.then K Q) n f e H [o]) : DJ P ops Q f HS nt n e H ((i, false) :: r) := fun w hH hf =>
  d_eff hi fun K hK => h K (fun f' e H hd w hH hf => hK e w (fun hlt => by
    have h3 : Nat.blt i nt = true := by simpa using hlt
    rw [hn] at h3; cases h3) fun a ha => wpS_tail hr (hd w hH hf a ha)) w hH hf
end
end Go.Fw
