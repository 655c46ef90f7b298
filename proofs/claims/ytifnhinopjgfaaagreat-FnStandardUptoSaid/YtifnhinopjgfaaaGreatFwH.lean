/-
  Maps, in the layer with a known heap. Conditions: as each lemma states them.
-/
import Derived.Test.YtifnhinopjgfaaaGreatFwG
namespace Go.Fw
open Go

section
variable {κ : Type} [DecidableEq κ] {enc : κ → Value} {ms : List (κ × Value)} {es : List MapEntry} {ck : Nat} {P : Program} {kt vt mt : Nat} {ok : World → κ → Prop} {w : World} {b : Nat}

/-! ### ranging -/
/-- 'it' ranges over the map at b: 'seen' are the stamps of what was met -/
def IterAt (w : World) (it b since : Nat) (seen : List Nat) (stepped : Nat) : Prop := w.heap[it]? = some (.mapIter (some b) since seen.toArray stepped)

theorem run_range (hu : ∀ w, (underlying mt).run P w = .ok (.map kt vt) w) (ho : w.heap[b]? = some (.map es.toArray ck)) :
  (Instr.range mt (.map (some b))).run P w = .ok (.pointer (some ⟨w.heap.size, 0, none⟩)) { w with heap := w.heap.push (.mapIter (some b) ck #[] ck) } := by
 simp only [Instr.range]
 simp only [Sem.run_bind, hu, Result.andThen_ok, run_getObj ho rfl, Sem.run_pure]
 rfl
theorem run_next {it since stepped rt : Nat} {seen : List Nat} (hi : IterAt w it b since seen stepped) (ho : w.heap[b]? = some (.map es.toArray ck)) (hlt : ∀ x ∈ es, x.born < since) (hst : since ≤ stepped) :
  (∃ w', (Instr.next (.pointer (some ⟨it, 0, none⟩)) false rt).run P w = .ok (.tuple #[.bool false]) w' ∧ w'.heap = w.heap ∧ w'.os = w.os ∧ w'.tape = w.tape ∧ w'.output = w.output ∧ ∀ x ∈ es, x.born ∈ seen) ∨
  (∃ w' x, (Instr.next (.pointer (some ⟨it, 0, none⟩)) false rt).run P w = .ok (.tuple #[.bool true, x.key, x.val]) w' ∧ Upd w w' it (.mapIter (some b) since (seen ++ [x.born]).toArray ck) ∧ x ∈ es ∧ x.born ∉ seen) := by
 have hall : (!seen.toArray.isEmpty && !es.toArray.isEmpty && es.toArray.all (fun x => decide (x.born ≥ stepped))) = false := by
  cases es with
  | nil => simp
  | cons x es =>
   have := hlt x (by simp)
   simp
   intro _ _
   omega
 let left := es.filter fun e => !seen.contains e.born
 have hleft : (es.toArray.filter fun e => !seen.toArray.contains e.born) = left.toArray := by simp [left]
 have hold : (left.toArray.filter fun e => decide (e.born < since)) = left.toArray := by
  have : left.filter (fun e => decide (e.born < since)) = left := by
   rw [List.filter_eq_self]
   intro x hx
   have := hlt x (List.mem_filter.1 hx).1
   simpa using this
  simp [this]
 have hnew : (left.toArray.filter fun e => decide (e.born ≥ since)) = #[] := by
  have : left.filter (fun e => decide (e.born ≥ since)) = [] := by
   rw [List.filter_eq_nil_iff]
   intro x hx
   have := hlt x (List.mem_filter.1 hx).1
   simp; omega
  simpa using this
 by_cases hnil : left = []
 ·left
  refine ⟨w, ?_, rfl, rfl, rfl, rfl, ?_⟩
  ·simp only [Instr.next]
   simp only [Sem.run_bind, run_getObj hi rfl, Result.andThen_ok, run_getObj ho rfl, hall, Bool.false_eq_true, if_false]
   rw [hleft, hold, hnew, hnil]
   simp [choose, Sem.run, Question.forced]
  ·intro x hx
   have h1 : x ∉ left := by rw [hnil]; simp
   have h2 : ¬ (!seen.contains x.born) = true := fun h => h1 (List.mem_filter.2 ⟨hx, h⟩)
   simpa using h2
 ·right
  have hlen : 0 < left.length := List.length_pos_iff.2 hnil
  let cands : Array (Option MapEntry) := (left.toArray ++ (#[] : Array MapEntry)).map some
  have hcs : cands.size = left.length := by simp [cands]
  -- the choice
  have hch : ∃ (j : Nat) (w1 : World), (choose (.mapNext left.length)).run P w = .ok j w1 ∧ j < left.length ∧ w1.heap = w.heap ∧ w1.os = w.os ∧ w1.tape = w.tape ∧ w1.output = w.output := by
   by_cases h1 : left.length ≤ 1
   ·exact ⟨0, w, by simp [choose, Sem.run, Question.forced, h1], hlen, rfl, rfl, rfl, rfl⟩
   ·refine ⟨w.tape w.drawn (.mapNext left.length) % left.length, { w with drawn := w.drawn + 1 }, ?_, Nat.mod_lt _ hlen, rfl, rfl, rfl, rfl⟩
    simp [choose, Sem.run, Question.forced, h1, Question.cut]
  obtain ⟨j, w1, hj1, hj2, hw1, hw2, hw3, hw4⟩ := hch
  have hx : left[j]? = some left[j] := List.getElem?_eq_getElem hj2
  have hmem := List.mem_filter.1 (List.mem_of_getElem? hx)
  have hit : w1.heap[it]? = some (.mapIter (some b) since seen.toArray stepped) := by rw [hw1]; exact hi
  obtain ⟨w', h1, h2⟩ := run_setObj (P := P) (w := w1) (o' := .mapIter (some b) since (seen ++ [left[j].born]).toArray ck) hit rfl
  refine ⟨w', left[j], ?_, ⟨h2.os.trans hw2, h2.tape.trans hw3, h2.output.trans hw4, h2.size.trans (by rw [hw1]), h2.at_, fun c hc => (h2.rest c hc).trans (by rw [hw1])⟩, hmem.1, by simpa using hmem.2⟩
  simp only [Instr.next]
  simp only [Sem.run_bind, run_getObj hi rfl, Result.andThen_ok, run_getObj ho rfl, hall, Bool.false_eq_true, if_false]
  rw [hleft, hold, hnew]
  have hemp : left.toArray.isEmpty = false := by simpa using hnil
  simp only [hemp, Bool.false_eq_true, if_false]
  have hc2 : ((#[] : Array (Option MapEntry)) ++ (left.toArray ++ (#[] : Array MapEntry)).map some).size = left.length := by simp
  rw [hc2, hj1]
  simp only [Result.andThen_ok]
  have hc3 : ((#[] : Array (Option MapEntry)) ++ (left.toArray ++ (#[] : Array MapEntry)).map some)[j]? = some (some left[j]) := by
   simp [hx]
  rw [hc3]
  simp only [Sem.run_bind]
  rw [show seen.toArray.push left[j].born = (seen ++ [left[j].born]).toArray by simp, h1]
  rfl
end
end Go.Fw
