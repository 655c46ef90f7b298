/-
  More operations: slices of slices and of strings, texts compared. Conditions: as each lemma states them.
-/
import Derived.Test.YtifnhinopjgfaaaGreatFwI
namespace Go.Fw
open Go

theorem Addr.add_zero (a : Addr) : a.add 0 = a := by simp [Addr.add]
section
variable {P : Program} {n : Nat} {e : Env} {d ty : Nat} {pos : String} {af : Array Edge} {w : World}

theorem r_slhi {t : Nat} {x y : Operand} {p : Option Addr} {l c elem sz : Nat} {kd : IntKind} {i : Nat} (hu : ∀ w, (underlying t).run P w = .ok (.slice elem) w) (hsz : ∀ w, (sizeOf elem).run P w = .ok sz w)
  (hx : ev e x = some (.slice p l c)) (hy : ev e y = some (.int kd i)) (hi : i ≤ c) {a : Act} (ha : Sat n e a) :
  (execOp a.eval ⟨some d, .slice t x none (some y) none, ty, pos, af, none⟩).run P w = .ok (.value (.slice p i c)) w := by
 simp only [execOp, ha.ev hx, Option.map_none, Option.map_some, ha.ev hy]
 simp [Instr.sliceAt, Instr.slice, Instr.sliceBounds, Instr.sliceBound, asIntOf, hu, hsz, hi, Addr.add_zero]
theorem r_dec {t t' : Nat} {x y : Operand} {i : Nat} (h0 : 0 < i) (hi : i < 9223372036854775807) (hx : ev e x = some (.int .i64 (i : Int))) (hy : ev e y = some (.int .i64 1)) {a : Act} (ha : Sat n e a) :
  (execOp a.eval ⟨some d, .binOp .sub t x y t', ty, pos, af, none⟩).run P w = .ok (.value (.int .i64 ((i - 1 : Nat) : Int))) w := by
 rw [r_sub hx hy ha]
 congr 3
 simp [IntKind.wrap, IntKind.bits, IntKind.signed]
 omega
/-- texts in their order -/
def ltB (x y : ByteArray) : Bool := Op.bytesLess x.toList y.toList
theorem r_slss {t t' : Nat} {x y : Operand} {p q : ByteArray} (hx : ev e x = some (.string p)) (hy : ev e y = some (.string q)) {a : Act} (ha : Sat n e a) :
  (execOp a.eval ⟨some d, .binOp .lss t x y t', ty, pos, af, none⟩).run P w = .ok (.value (.bool (ltB p q))) w := by
 simp only [execOp, ha.ev hx, ha.ev hy]; simp [eqGuard, binOp, Op.stringOp, ltB]
theorem r_sgeq {t t' : Nat} {x y : Operand} {p q : ByteArray} (hx : ev e x = some (.string p)) (hy : ev e y = some (.string q)) {a : Act} (ha : Sat n e a) :
  (execOp a.eval ⟨some d, .binOp .geq t x y t', ty, pos, af, none⟩).run P w = .ok (.value (.bool (!ltB p q))) w := by
 simp only [execOp, ha.ev hx, ha.ev hy]; simp [eqGuard, binOp, Op.stringOp, ltB]
theorem r_sgtr {t t' : Nat} {x y : Operand} {p q : ByteArray} (hx : ev e x = some (.string p)) (hy : ev e y = some (.string q)) {a : Act} (ha : Sat n e a) :
  (execOp a.eval ⟨some d, .binOp .gtr t x y t', ty, pos, af, none⟩).run P w = .ok (.value (.bool (!(ltB p q || decide (p = q))))) w := by
 simp only [execOp, ha.ev hx, ha.ev hy]; simp [eqGuard, binOp, Op.stringOp, ltB, ba_eq]
end
section
variable {P : Program} {Q : Exit → Act → World → Prop} {n : Nat} {f : Fm} {e : Env} {H : Heap}
theorem cj_drawI {id : Nat} {l : List Oper} {HS : Heap} (nt : Nat) (s : Sched) (idx : List Nat) (_ : pickH H idx = some HS) (hm : P.follows .mixedOrders = true) (hs : schedB l.toArray nt s = true)
  (h : DJ P l.toArray (NoP Q) f HS nt n e H s) : CJ P (.region id l.toArray true) Q n f e H := cj_draw nt s HS hm hs h
theorem cj_seqF {x y : Code} (h : ∀ K : Act → World → Prop, (∀ f e H, CJ P y Q n f e H → NJ K n f e H) → CJ P x (Exit.then K Q) n f e H) : CJ P (.seq x y) Q n f e H := fun w hH hf a ha =>
 wp_seq (h (fun a w => y.wp P Q a w) (fun _ _ _ h => fun w hH hf a ha => h w hH hf a ha) w hH hf a ha)
theorem dj_end {ops : Array Oper} {HS : Heap} {nt : Nat} (h : EJ Q .normal n f e H) : DJ P ops (NoP Q) f HS nt n e H [] := dj_nil h
end
/-- a slice that this stretch made, and may write -/
structure Own (T sz : Nat) (y : Ent) (p : Option Addr) (l c : Nat) (xs : List Value) : Prop where
 hT : y.T = T
 hw : y.wr = true
 ho : y.ob = none
 sl : SlE y p l c sz xs
def nilE (T : Nat) : Ent := ⟨0, T, [], true, false, none⟩
theorem Own.nil {T sz : Nat} : Own T sz (nilE T) none 0 0 [] := ⟨rfl, rfl, rfl, by simp, Nat.le_refl _, .inr ⟨rfl, rfl, rfl⟩⟩
theorem Hp.off {f : Fm} {w : World} {H : Heap} {T : Nat} (h : Hp f w H) : Hp f w (nilE T :: H) := ⟨⟨fun h => by simp [nilE] at h, fun o h => by simp [nilE] at h⟩, fun h => by simp [Ent.ex, nilE] at h, fun h => by simp [Ent.ex, nilE] at h, h⟩
section
variable {P : Program} {Q : Exit → Act → World → Prop} {n : Nat} {f : Fm} {e : Env} {H : Heap} {ops : Array Oper} {rest : List Oper} {d ty : Nat} {pos : String} {af : Array Edge}
theorem j_appO {sT T sz by_ l c : Nat} {s x : Operand} {y : Ent} {p : Option Addr} {xs ys : List Value} {bz Tz : Nat} (i : Nat) (hy : H[i]? = some y) (hO : Own T sz y p l c xs)
  (hu : ∀ w, (underlying sT).run P w = .ok (.slice T) w) (hT : ElT P T sz by_) (hby : Nat.ble by_ 1000 = true)
  (hs : ev e s = some (.slice p l c)) (hxv : ev e x = some (.slice (some ⟨bz, 0, none⟩) 1 1))
  (hys : Nat.beq ys.length sz = true) (hsc : ys.all scal = true) (hbig : l + 1 ≤ 100000000000) (hd : Nat.blt d n = true)
  (k : ∀ y' p' c', Own T sz y' p' (l + 1) c' (xs ++ ys) → J P ops Q n f ((d, .slice p' (l + 1) c') :: e) (putH H i y') rest) :
  J P ops Q n f e (⟨bz, Tz, ys, true, true, none⟩ :: H) (⟨some d, .call ⟨.builtin .append, #[s, x], #[sT, sT]⟩, ty, pos, af, none⟩ :: rest) :=
 j_append1 i hy hO.hT hO.ho hO.hw hu hT hby hs hxv hO.sl hys hsc hbig hd fun y' p' c' h1 h2 h3 h4 => k y' p' c' ⟨h1, h2, h3, h4⟩
end
section
variable {P : Program} {Q : Exit → Act → World → Prop} {n : Nat} {f : Fm} {e : Env} {H : Heap} {ops : Array Oper} {rest : List Oper} {d ty : Nat} {pos : String} {af : Array Edge}
theorem jM {x : Operand} {v : Value} (hx : ev e x = some v) (hd : Nat.blt d n = true) (k : J P ops Q n f ((d, v) :: e) H rest) : J P ops Q n f e H (⟨some d, .move x, ty, pos, af, none⟩ :: rest) := j_val hd (fun a w ha => r_move hx ha) k
theorem jA {x : Operand} {v : Value} (hx : ev e x = some v) (hd : Nat.blt d n = true) (k : J P ops Q n f ((d, v) :: e) H rest) : J P ops Q n f e H (⟨some d, .assign x, ty, pos, af, none⟩ :: rest) := j_val hd (fun a w ha => r_assign hx ha) k
theorem jN {x : Operand} {ad : Addr} (hx : ev e x = some (.pointer (some ad))) (hd : Nat.blt d n = true) (k : J P ops Q n f ((d, .pointer (some ad)) :: e) H rest) : J P ops Q n f e H (⟨some d, .nilCheck x, ty, pos, af, none⟩ :: rest) := j_val hd (fun a w ha => r_nil hx ha) k
theorem CJ.s {c : Code} (e' : Env) (hs : Sub e e') (h : CJ P c Q n f e' H) : CJ P c Q n f e H := CJ.sub hs h
end
end Go.Fw
