/-
  More operations: numbers' bits, parts of slices and arrays, copies, calls through an interface. Conditions: as each lemma states them.
-/
import Derived.Test.YtifnhinopjgfaaaGreatFwN
namespace Go.Fw
open Go
section
variable {P : Program} {Q : Exit → Act → World → Prop} {n : Nat} {f : Fm} {e : Env} {H : Heap} {ops : Array Oper} {rest : List Oper} {d ty : Nat} {pos : String} {af : Array Edge}
theorem r_or {t t' : Nat} {x y : Operand} {kd : IntKind} {p q : Int} (hx : ev e x = some (.int kd p)) (hy : ev e y = some (.int kd q)) {a : Act} {w : World} (ha : Sat n e a) :
  (execOp a.eval ⟨some d, .binOp .or t x y t', ty, pos, af, none⟩).run P w = .ok (.value (.int kd (kd.wrap ((BitVec.ofInt kd.bits p ||| BitVec.ofInt kd.bits q).toNat)))) w := by (simp only [execOp, ha.ev hx, ha.ev hy]; simp [eqGuard, binOp, Op.intBits])
theorem r_and {t t' : Nat} {x y : Operand} {kd : IntKind} {p q : Int} (hx : ev e x = some (.int kd p)) (hy : ev e y = some (.int kd q)) {a : Act} {w : World} (ha : Sat n e a) :
  (execOp a.eval ⟨some d, .binOp .and t x y t', ty, pos, af, none⟩).run P w = .ok (.value (.int kd (kd.wrap ((BitVec.ofInt kd.bits p &&& BitVec.ofInt kd.bits q).toNat)))) w := by (simp only [execOp, ha.ev hx, ha.ev hy]; simp [eqGuard, binOp, Op.intBits])
theorem r_shl {t t' : Nat} {x y : Operand} {kd kd' : IntKind} {p : Int} {q : Nat} (hx : ev e x = some (.int kd p)) (hy : ev e y = some (.int kd' (q : Int))) {a : Act} {w : World} (ha : Sat n e a) :
  (execOp a.eval ⟨some d, .binOp .shl t x y t', ty, pos, af, none⟩).run P w = .ok (.value (.int kd (kd.wrap (p * 2 ^ (min q kd.bits))))) w := by (simp only [execOp, ha.ev hx, ha.ev hy]; simp [eqGuard, binOp, Op.shift]; intro h; omega)
theorem r_shr {t t' : Nat} {x y : Operand} {kd kd' : IntKind} {p : Int} {q : Nat} (hx : ev e x = some (.int kd p)) (hy : ev e y = some (.int kd' (q : Int))) {a : Act} {w : World} (ha : Sat n e a) :
  (execOp a.eval ⟨some d, .binOp .shr t x y t', ty, pos, af, none⟩).run P w = .ok (.value (.int kd (p.fdiv (2 ^ (min q kd.bits))))) w := by (simp only [execOp, ha.ev hx, ha.ev hy]; simp [eqGuard, binOp, Op.shift]; intro h; omega)
/-- where a part of a row begins -/
def cut (o c lo sz : Nat) : Nat := if c = lo then o else o + lo * sz
theorem addr_cut (b o c lo sz : Nat) : (if c = lo then (some ⟨b, o, none⟩ : Option Addr) else (some (⟨b, o, none⟩ : Addr)).map (·.add (lo * sz))) = some ⟨b, cut o c lo sz, none⟩ := by
 unfold cut
 split
 ·rfl
 ·simp only [Option.map_some, Addr.add]
  split
  ·rename_i h; rw [h]; rfl
  ·rfl
theorem r_slcut {t : Nat} {x y : Operand} {b o l c elem sz : Nat} {kd : IntKind} {i : Nat} (hu : ∀ w, (underlying t).run P w = .ok (.slice elem) w) (hsz : ∀ w, (sizeOf elem).run P w = .ok sz w)
  (hx : ev e x = some (.slice (some ⟨b, o, none⟩) l c)) (hy : ev e y = some (.int kd i)) (hi : i ≤ l) {a : Act} {w : World} (ha : Sat n e a) :
  (execOp a.eval ⟨some d, .slice t x (some y) none none, ty, pos, af, none⟩).run P w = .ok (.value (.slice (some ⟨b, cut o c i sz, none⟩) (l - i) (c - i))) w := by
 have h := addr_cut b o c i sz
 simp only [execOp, ha.ev hx, Option.map_none, Option.map_some, ha.ev hy]
 simp only [Option.map_some] at h
 simp [Instr.sliceAt, Instr.slice, Instr.sliceBounds, Instr.sliceBound, asIntOf, hu, hsz, hi, h]
theorem r_slmid {t : Nat} {x y z : Operand} {b o l c elem sz : Nat} {kd kd' : IntKind} {i j : Nat} (hu : ∀ w, (underlying t).run P w = .ok (.slice elem) w) (hsz : ∀ w, (sizeOf elem).run P w = .ok sz w)
  (hx : ev e x = some (.slice (some ⟨b, o, none⟩) l c)) (hy : ev e y = some (.int kd i)) (hz : ev e z = some (.int kd' j)) (hi : i ≤ j) (hj : j ≤ c) {a : Act} {w : World} (ha : Sat n e a) :
  (execOp a.eval ⟨some d, .slice t x (some y) (some z) none, ty, pos, af, none⟩).run P w = .ok (.value (.slice (some ⟨b, cut o c i sz, none⟩) (j - i) (c - i))) w := by
 have h := addr_cut b o c i sz
 simp only [execOp, ha.ev hx, Option.map_none, Option.map_some, ha.ev hy, ha.ev hz]
 simp only [Option.map_some] at h
 simp [Instr.sliceAt, Instr.slice, Instr.sliceBounds, Instr.sliceBound, asIntOf, hu, hsz, hi, hj, h]
/-- an array's parts -/
theorem r_sarr {t : Nat} {x : Operand} {b o m elem : Nat} (hu : ∀ w, (underlying t).run P w = .ok (.array m elem) w) {sz : Nat} (hsz : ∀ w, (sizeOf elem).run P w = .ok sz w)
  (hx : ev e x = some (.pointer (some ⟨b, o, none⟩))) {a : Act} {w : World} (ha : Sat n e a) :
  (execOp a.eval ⟨some d, .slice t x none none none, ty, pos, af, none⟩).run P w = .ok (.value (.slice (some ⟨b, o, none⟩) m m)) w := by
 simp only [execOp, ha.ev hx, Option.map_none]
 simp [Instr.sliceAt, Instr.sliceBounds, Instr.sureAddr, hu, hsz, Addr.add]
theorem r_sarrhi {t : Nat} {x z : Operand} {b o m elem : Nat} {kd : IntKind} {j : Nat} (hu : ∀ w, (underlying t).run P w = .ok (.array m elem) w) {sz : Nat} (hsz : ∀ w, (sizeOf elem).run P w = .ok sz w)
  (hx : ev e x = some (.pointer (some ⟨b, o, none⟩))) (hz : ev e z = some (.int kd j)) (hj : j ≤ m) {a : Act} {w : World} (ha : Sat n e a) :
  (execOp a.eval ⟨some d, .slice t x none (some z) none, ty, pos, af, none⟩).run P w = .ok (.value (.slice (some ⟨b, o, none⟩) j m)) w := by
 simp only [execOp, ha.ev hx, Option.map_none, Option.map_some, ha.ev hz]
 simp [Instr.sliceAt, Instr.sliceBounds, Instr.sliceBound, asIntOf, Instr.sureAddr, hu, hsz, hj, Addr.add]
/-- the first temp's value, written otherwise -/
theorem dj_eqv {HS : Heap} {nt : Nat} {r : Sched} {v u : Value} (hp : v = u) (k : DJ P ops Q f HS nt n ((d, u) :: e) H r) : DJ P ops Q f HS nt n ((d, v) :: e) H r := by rw [hp]; exact k
/-- copy into a known row -/
theorem j_copy {sT xT elem m l o c : Nat} {x z : Operand} {y : Ent} {sv : Value} {news : List Value} (i : Nat) (hy : H[i]? = some y) (ho : y.on = true) (hob : y.ob = none) (hwr : y.wr = true) (hu : ∀ w, (underlying sT).run P w = .ok (.slice elem) w) (hsz : ∀ w, (sizeOf elem).run P w = .ok 1 w)
  (hx : ev e x = some (.slice (some ⟨y.b, o, none⟩) l c)) (hz : ev e z = some sv) (hm : ∀ w, (Builtin.lenOf sv).run P w = .ok m w) (hsrc : ∀ w, Hp f w H → f.ok w → (Builtin.firstCells 1 (Nat.min m l) sv).run P w = .ok news.toArray w)
  (hs : news.all scal = true) (hl : o + news.length ≤ y.cs.length) (hd : Nat.blt d n = true)
  (k : J P ops Q n f ((d, .int .i64 ((Nat.min m l : Nat) : Int)) :: e) (setH H i (setL y.cs o news)) rest) : J P ops Q n f e H (⟨some d, .call ⟨.builtin .copy, #[x, z], #[sT, xT]⟩, ty, pos, af, none⟩ :: rest) := fun w hH hf => by
 obtain ⟨w', h1, h2⟩ := run_storeCells (P := P) (b := y.b) (T := y.T) news w y.cs o 0 (hH.get hy ho) (by omega) hs
 rw [Nat.add_zero] at h2
 refine L.valw hd (fun a ha => ?_) (k w' (hH.upd hy ho h2 hob) (hf.upd (hH.get hy ho) (hH.may (List.mem_of_getElem? hy) ho hwr) h2))
 simp only [execOp, resolve]
 simp [invoke, builtin, ha.ev hx, ha.ev hz, Builtin.copy_, hu, hm, hsz, hsrc w hH hf, h1, goInt]
/-- a call through an interface value -/
theorem j_callI {g : FuncId} {name : String} {x : Operand} {args : Array Operand} {vs as' : List Value} {T : Nat} {v0 : Value} {tys : Array TypeId} {R : World → Value → World → Prop} (hg : ∀ (w : World), (callMethod (.iface T v0) name vs.toArray).run P w = .ok (.enter g as'.toArray) w)
  (hx : ev e x = some (.iface T v0)) (hargs : evL e args.toList = some vs) (hd : Nat.blt d n = true) (hc : ∀ w, Hp f w H → f.ok w → Calls P g as'.toArray w (Ret (R w)))
  (k : ∀ w v w', Hp f w H → f.ok w → R w v w' → L P ops Q n ((d, v) :: e) rest w') : J P ops Q n f e H (⟨some d, .call ⟨.invoke x name, args, tys⟩, ty, pos, af, none⟩ :: rest) := fun w hH hf a ha => by
 have hmap : args.map a.eval = vs.toArray := by apply Array.toList_inj.1; rw [Array.toList_map]; exact evL_ok ha hargs
 unfold wpList
 rw [if_pos (by simp [Region.wanted])]
 refine .inl ?_
 have hrun : (execOp a.eval ⟨some d, .call ⟨.invoke x name, args, tys⟩, ty, pos, af, none⟩).run P w = .ok (.enter g as'.toArray) w := by
  have h2 : (vs.toArray : Array Value) = (#[Value.iface T v0] ++ vs.toArray).extract 1 (#[Value.iface T v0] ++ vs.toArray).size := by simp
  simp only [execOp, resolve, hmap, ha.ev hx]
  have h3 := hg w
  simp only [Sem.run_bind, Sem.run_pure, Result.andThen_ok, invoke]
  simp
  exact h3
 unfold Oper.wp
 rw [hrun]
 refine Calls.mono (hc w hH hf) fun e w' he => ?_
 cases e with
 | returned v => exact k w v w' hH hf he _ (ha.put hd)
 | panicked c => exact he.elim
 | outgrown => exact he.elim
end
end Go.Fw
