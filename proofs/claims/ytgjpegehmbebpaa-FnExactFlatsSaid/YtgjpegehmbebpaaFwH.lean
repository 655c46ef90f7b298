/-
  Maps, in the layer with a known heap. Conditions: as each lemma states them.
-/
import Derived.Test.YtgjpegehmbebpaaFwG
namespace Go.Fw
open Go

section
variable {κ : Type} [DecidableEq κ] {enc : κ → Value} {ms : List (κ × Value)} {es : List MapEntry} {ck : Nat} {P : Program} {kt vt mt : Nat} {ok : World → κ → Prop} {w : World} {b : Nat}

/-- the entry of key k bears the stamp s -/
def Stamp (enc : κ → Value) (es : List MapEntry) (k : κ) (s : Nat) : Prop := ∃ x ∈ es, x.key = enc k ∧ x.born = s

theorem nodup_idx {l : List Nat} (hn : l.Nodup) {i j : Nat} {x : Nat} (hi : l[i]? = some x) (hj : l[j]? = some x) : i = j := by
  induction l generalizing i j with
  | nil => simp at hi
  | cons a r ih =>
    simp only [List.nodup_cons] at hn
    cases i with
    | zero =>
      cases j with
      | zero => rfl
      | succ j =>
        simp at hi hj
        subst hi
        exact absurd (List.mem_of_getElem? hj) hn.1
    | succ i =>
      cases j with
      | zero =>
        simp at hi hj
        subst hj
        exact absurd (List.mem_of_getElem? hi) hn.1
      | succ j =>
        simp at hi hj
        rw [ih hn.2 hi hj]

theorem findIdx_born (hb : (es.map (·.born)).Nodup) {i : Nat} {x : MapEntry} (hx : es[i]? = some x) : es.findIdx? (fun e => (e.born : Int) == (x.born : Int)) = some i := by
  rw [List.findIdx?_eq_some_iff_getElem]
  obtain ⟨hi, hxi⟩ := List.getElem?_eq_some_iff.1 hx
  refine ⟨hi, by rw [hxi]; simp, ?_⟩
  intro j hj
  simp only [Bool.not_eq_true, beq_eq_false_iff_ne, ne_eq, Int.natCast_inj]
  intro he
  have h1 : (es.map (·.born))[j]? = some x.born := by
    rw [List.getElem?_map, List.getElem?_eq_getElem (by omega)]
    simp [he]
  have h2 : (es.map (·.born))[i]? = some x.born := by rw [List.getElem?_map, hx]; rfl
  have := nodup_idx hb h1 h2
  omega

theorem run_mapEntry (hu : ∀ w, (underlying mt).run P w = .ok (.map kt vt) w) (hk : KeyT P kt enc ok) (hM : MEnc enc ms es ck) (ho : w.heap[b]? = some (.map es.toArray ck)) (hok : ∀ p ∈ ms, ok w p.1) {k : κ} (hkk : ok w k) {z : Value} (hz : ∀ w, (zeroValue vt).run P w = .ok z w) :
    ∃ es' ck' w' i s, (Instr.mapEntry mt (.map (some b)) (enc k)).run P w = .ok (.tuple #[(mget ms k).getD z, .int .i64 s]) w' ∧ MEnc enc (mset ms k ((mget ms k).getD z)) es' ck' ∧ Upd w w' b (.map es'.toArray ck') ∧
      mix (mset ms k ((mget ms k).getD z)) k 0 = some (i, (mget ms k).getD z) ∧ es'.findIdx? (fun e => (e.born : Int) == s) = some i := by
  cases hm : mix ms k 0 with
  | none =>
    have hg : mget ms k = none := by simp [mget, hm]
    obtain ⟨w', h1, h2⟩ := run_setObj (P := P) (o' := .map (es ++ [({ key := enc k, val := z, born := ck } : MapEntry)]).toArray (ck + 1)) ho rfl
    have hM' := hM.set_none (u := z) hm
    rw [hg]
    simp only [Option.getD_none]
    refine ⟨_, _, w', ms.length, ck, ?_, hM', h2, ?_, ?_⟩
    · simp only [Instr.mapEntry]
      simp only [Sem.run_bind, hu, Result.andThen_ok, run_getObj ho rfl, hk.check, hk.find w ms es k hM.kv hok hkk, hm, hz]
      rw [show es.toArray.push ({ key := enc k, val := z, born := ck } : MapEntry) = (es ++ [({ key := enc k, val := z, born := ck } : MapEntry)]).toArray by simp, h1]
      rfl
    · rw [mset_of_none hm]
      have : ∀ (l : List (κ × Value)) (j : Nat), mix l k 0 = none → mix (l ++ [(k, z)]) k j = some (j + l.length, z) := by
        intro l
        induction l with
        | nil => intro j _; simp [mix]
        | cons p r ih =>
          obtain ⟨k', v'⟩ := p
          intro j hn
          simp only [mix] at hn
          split at hn
          · simp at hn
          · rename_i hne
            rw [mix_shift] at hn
            have hr : mix r k 0 = none := by cases hq : mix r k 0 <;> simp_all
            simp only [List.cons_append, mix, hne, if_false, ih (j + 1) hr, List.length_cons]
            congr 2; omega
      simpa using this ms 0 hm
    · have hl := hM.length
      have hx : (es ++ [({ key := enc k, val := z, born := ck } : MapEntry)])[ms.length]? = some { key := enc k, val := z, born := ck } := by rw [← hl]; simp
      exact findIdx_born hM'.born hx
  | some q =>
    obtain ⟨i, v⟩ := q
    have hg : mget ms k = some v := by simp [mget, hm]
    have hi := mix_some_lt hm
    have hj := congrArg (fun l => l[i]?) hM.kv
    simp only [List.getElem?_map, hi, Option.map_some, Option.map_eq_some_iff] at hj
    obtain ⟨x, hx, hxk⟩ := hj
    simp only [Prod.mk.injEq] at hxk
    have hsame : (es.modify i fun x => { x with key := enc k }) = es := by
      apply List.ext_getElem?
      intro j
      rw [List.getElem?_modify]
      by_cases hij : i = j
      · subst hij
        simp [hx, ← hxk.1]
      · simp [hij]
    have hmset : mset ms k v = ms := by
      rw [mset_of_some hm]
      apply List.ext_getElem?
      intro j
      rw [List.getElem?_modify]
      by_cases hij : i = j
      · subst hij
        simp [hi]
      · simp [hij]
    obtain ⟨w', h1, h2⟩ := run_setObj (P := P) (o' := .map es.toArray ck) ho rfl
    rw [hg]
    simp only [Option.getD_some]
    rw [hmset]
    refine ⟨es, ck, w', i, x.born, ?_, hM, h2, hm, findIdx_born hM.born hx⟩
    have hkey : ((es.toArray[i]?).map (·.key)).getD (enc k) = enc k := by simp [hx, hxk.1]
    simp only [Instr.mapEntry]
    simp only [Sem.run_bind, hu, Result.andThen_ok, run_getObj ho rfl, hk.check, hk.find w ms es k hM.kv hok hkk, hm, hkey, run_keyStays hk]
    rw [show (es.toArray.modify i fun (x : MapEntry) => { x with key := enc k }) = es.toArray by rw [List.modify_toArray, hsame]]
    rw [h1]
    simp [hx, goInt]

theorem run_entryStore (hM : MEnc enc ms es ck) (ho : w.heap[b]? = some (.map es.toArray ck)) {k : κ} {i : Nat} {v : Value} {s : Nat} (hm : mix ms k 0 = some (i, v)) (hf : es.findIdx? (fun e => (e.born : Int) == s) = some i) (u : Value) :
    ∃ es' w', (Instr.entryStore mt (.map (some b)) (.int .i64 s) u).run P w = .ok () w' ∧ MEnc enc (mset ms k u) es' ck ∧ Upd w w' b (.map es'.toArray ck) := by
  have hi := mix_some_lt hm
  have hj := congrArg (fun l => l[i]?) hM.kv
  simp only [List.getElem?_map, hi, Option.map_some, Option.map_eq_some_iff] at hj
  obtain ⟨x, hx, hxk⟩ := hj
  simp only [Prod.mk.injEq] at hxk
  have hsame : (es.modify i fun x => { x with val := u }) = (es.modify i fun x => { x with key := enc k, val := u }) := by
    apply List.ext_getElem?
    intro j
    rw [List.getElem?_modify, List.getElem?_modify]
    by_cases hij : i = j
    · subst hij
      simp [hx, ← hxk.1]
    · simp [hij]
  obtain ⟨w', h1, h2⟩ := run_setObj (P := P) (o' := .map (es.modify i fun x => { x with key := enc k, val := u }).toArray ck) ho rfl
  refine ⟨_, w', ?_, hM.set_some hm, h2⟩
  simp only [Instr.entryStore]
  simp only [Sem.run_bind, Result.andThen_ok, run_getObj ho rfl, asInt, asIntOf, Sem.run_pure]
  rw [show (es.toArray.findIdx? fun e => (e.born : Int) == (s : Int)) = some i by simpa using hf]
  simp only
  rw [show (es.toArray.modify i fun (x : MapEntry) => { x with val := u }) = (es.modify i fun (x : MapEntry) => { x with key := enc k, val := u }).toArray by rw [List.modify_toArray, hsame]]
  exact h1

theorem mdel_eraseIdx {k : κ} {i : Nat} {v : Value} (hn : (ms.map (·.1)).Nodup) (hm : mix ms k 0 = some (i, v)) : mdel ms k = ms.eraseIdx i := by
  induction ms generalizing i with
  | nil => simp [mix] at hm
  | cons p r ih =>
    obtain ⟨k', u⟩ := p
    simp only [List.map_cons, List.nodup_cons] at hn
    simp only [mix] at hm
    split at hm
    · rename_i hk
      subst hk
      simp at hm
      obtain ⟨rfl, rfl⟩ := hm
      have : ∀ p ∈ r, p.1 ≠ k := fun p hp he => hn.1 (List.mem_map.2 ⟨p, hp, he⟩)
      simp only [mdel, List.filter_cons, ne_eq, not_true_eq_false, decide_false, Bool.false_eq_true, if_false, List.eraseIdx_zero, List.tail_cons]
      rw [List.filter_eq_self]
      intro p hp
      simp [this p hp]
    · rename_i hk
      rw [mix_shift] at hm
      cases hq : mix r k 0 with
      | none => simp [hq] at hm
      | some q =>
        obtain ⟨j, u'⟩ := q
        simp only [hq, Option.map_some, Option.some.injEq, Prod.mk.injEq] at hm
        obtain ⟨rfl, rfl⟩ := hm
        have h2 := ih hn.2 hq
        simp only [mdel, List.filter_cons, ne_eq, Ne.symm hk, not_false_eq_true, decide_true, if_true, List.eraseIdx_cons_succ] at h2 ⊢
        rw [h2]
theorem run_delete (hu : ∀ w, (underlying mt).run P w = .ok (.map kt vt) w) (hk : KeyT P kt enc ok) (hM : MEnc enc ms es ck) (ho : w.heap[b]? = some (.map es.toArray ck)) (hok : ∀ p ∈ ms, ok w p.1) {k : κ} (hkk : ok w k) {rt xt : Nat} :
    ∃ es' w', (Builtin.delete_ #[mt, xt] rt #[.map (some b), enc k]).run P w = .ok (.tuple #[]) w' ∧ MEnc enc (mdel ms k) es' ck ∧ (es'.Sublist es) ∧ Upd w w' b (.map es'.toArray ck) := by
  cases hm : mix ms k 0 with
  | none =>
    obtain ⟨w', h1, h2⟩ := run_setObj (P := P) (o' := .map es.toArray ck) ho rfl
    have hd : mdel ms k = ms := by
      unfold mdel
      rw [List.filter_eq_self]
      intro p hp
      have := mix_none hm
      simp only [ne_eq, decide_not, Bool.not_eq_true', decide_eq_false_iff_not]
      intro he
      exact this (List.mem_map.2 ⟨p, hp, he⟩)
    refine ⟨es, w', ?_, by rw [hd]; exact hM, List.Sublist.refl _, h2⟩
    simp only [Builtin.delete_]
    simp only [Sem.run_bind, hu, Result.andThen_ok, run_getObj ho rfl, hk.check, hk.find w ms es k hM.kv hok hkk, hm, List.getElem?_toArray, List.getElem?_cons_zero, List.getElem?_cons_succ, h1, Sem.run_pure]
  | some q =>
    obtain ⟨i, v⟩ := q
    obtain ⟨w', h1, h2⟩ := run_setObj (P := P) (o' := .map (es.eraseIdx i).toArray ck) ho rfl
    have hsub : (es.eraseIdx i).Sublist es := List.eraseIdx_sublist es i
    refine ⟨es.eraseIdx i, w', ?_, ⟨?_, mdel_nodup hM.keys k, (hsub.map _).nodup hM.born, fun x hx => hM.lt x (hsub.subset hx)⟩, hsub, h2⟩
    · simp only [Builtin.delete_]
      simp only [Sem.run_bind, hu, Result.andThen_ok, run_getObj ho rfl, hk.check, hk.find w ms es k hM.kv hok hkk, hm, List.getElem?_toArray, List.getElem?_cons_zero, List.getElem?_cons_succ, Sem.run_pure]
      rw [show es.toArray.eraseIdxIfInBounds i = (es.eraseIdx i).toArray by simp, h1]
      rfl
    · rw [mdel_eraseIdx hM.keys hm]
      have h3 : ∀ {α β : Type} (g : α → β) (l : List α) (i : Nat), (l.eraseIdx i).map g = (l.map g).eraseIdx i := by
        intro α β g l
        induction l with
        | nil => intro i; simp
        | cons a r ih => intro i; cases i <;> simp [ih]
      rw [h3, h3, hM.kv]

/-! ### ranging -/
/-- 'it' ranges over the map at b: 'seen' are the stamps of what was met -/
def IterAt (w : World) (it b since : Nat) (seen : List Nat) (stepped : Nat) : Prop := w.heap[it]? = some (.mapIter (some b) since seen.toArray stepped)

theorem run_range (hu : ∀ w, (underlying mt).run P w = .ok (.map kt vt) w) (ho : w.heap[b]? = some (.map es.toArray ck)) :
    (Instr.range mt (.map (some b))).run P w = .ok (.pointer (some ⟨w.heap.size, 0, none⟩)) { w with heap := w.heap.push (.mapIter (some b) ck #[] ck) } := by
  simp only [Instr.range]
  simp only [Sem.run_bind, hu, Result.andThen_ok, run_getObj ho rfl, Sem.run_pure]
  rfl
theorem run_next {it since stepped rt : Nat} {seen : List Nat} (hi : IterAt w it b since seen stepped) (ho : w.heap[b]? = some (.map es.toArray ck)) (hlt : ∀ x ∈ es, x.born < since) (hst : since ≤ stepped) :
    (∃ w', (Instr.next (.pointer (some ⟨it, 0, none⟩)) false rt).run P w = .ok (.tuple #[.bool false]) w' ∧ w'.heap = w.heap ∧ w'.os = w.os ∧ w'.tape = w.tape ∧ w'.output = w.output ∧ ∀ x ∈ es, x.born ∈ seen) ∨
    (∃ w' x, (Instr.next (.pointer (some ⟨it, 0, none⟩)) false rt).run P w = .ok (.tuple #[.bool true, x.key, x.val]) w' ∧ Upd w w' it (.mapIter (some b) since (seen ++ [x.born]).toArray ck) ∧ x ∈ es ∧ x.born ∉ seen) := by
  have hall : (!seen.toArray.isEmpty && !es.toArray.isEmpty && es.toArray.all (fun x => decide (x.born ≥ stepped))) = false := by
    cases es with
    | nil => simp
    | cons x es =>
      have := hlt x (by simp)
      simp
      intro _ _
      omega
  let left := es.filter fun e => !seen.contains e.born
  have hleft : (es.toArray.filter fun e => !seen.toArray.contains e.born) = left.toArray := by simp [left]
  have hold : (left.toArray.filter fun e => decide (e.born < since)) = left.toArray := by
    have : left.filter (fun e => decide (e.born < since)) = left := by
      rw [List.filter_eq_self]
      intro x hx
      have := hlt x (List.mem_filter.1 hx).1
      simpa using this
    simp [this]
  have hnew : (left.toArray.filter fun e => decide (e.born ≥ since)) = #[] := by
    have : left.filter (fun e => decide (e.born ≥ since)) = [] := by
      rw [List.filter_eq_nil_iff]
      intro x hx
      have := hlt x (List.mem_filter.1 hx).1
      simp; omega
    simpa using this
  by_cases hnil : left = []
  · left
    refine ⟨w, ?_, rfl, rfl, rfl, rfl, ?_⟩
    · simp only [Instr.next]
      simp only [Sem.run_bind, run_getObj hi rfl, Result.andThen_ok, run_getObj ho rfl, hall, Bool.false_eq_true, if_false]
      rw [hleft, hold, hnew, hnil]
      simp [choose, Sem.run, Question.forced]
    · intro x hx
      have h1 : x ∉ left := by rw [hnil]; simp
      have h2 : ¬ (!seen.contains x.born) = true := fun h => h1 (List.mem_filter.2 ⟨hx, h⟩)
      simpa using h2
  · right
    have hlen : 0 < left.length := List.length_pos_iff.2 hnil
    let cands : Array (Option MapEntry) := (left.toArray ++ (#[] : Array MapEntry)).map some
    have hcs : cands.size = left.length := by simp [cands]
    -- the choice
    have hch : ∃ (j : Nat) (w1 : World), (choose (.mapNext left.length)).run P w = .ok j w1 ∧ j < left.length ∧ w1.heap = w.heap ∧ w1.os = w.os ∧ w1.tape = w.tape ∧ w1.output = w.output := by
      by_cases h1 : left.length ≤ 1
      · exact ⟨0, w, by simp [choose, Sem.run, Question.forced, h1], hlen, rfl, rfl, rfl, rfl⟩
      · refine ⟨w.tape w.drawn (.mapNext left.length) % left.length, { w with drawn := w.drawn + 1 }, ?_, Nat.mod_lt _ hlen, rfl, rfl, rfl, rfl⟩
        simp [choose, Sem.run, Question.forced, h1, Question.cut]
    obtain ⟨j, w1, hj1, hj2, hw1, hw2, hw3, hw4⟩ := hch
    have hx : left[j]? = some left[j] := List.getElem?_eq_getElem hj2
    have hmem := List.mem_filter.1 (List.mem_of_getElem? hx)
    have hit : w1.heap[it]? = some (.mapIter (some b) since seen.toArray stepped) := by rw [hw1]; exact hi
    obtain ⟨w', h1, h2⟩ := run_setObj (P := P) (w := w1) (o' := .mapIter (some b) since (seen ++ [left[j].born]).toArray ck) hit rfl
    refine ⟨w', left[j], ?_, ⟨h2.os.trans hw2, h2.tape.trans hw3, h2.output.trans hw4, h2.size.trans (by rw [hw1]), h2.at_, fun c hc => (h2.rest c hc).trans (by rw [hw1])⟩, hmem.1, by simpa using hmem.2⟩
    simp only [Instr.next]
    simp only [Sem.run_bind, run_getObj hi rfl, Result.andThen_ok, run_getObj ho rfl, hall, Bool.false_eq_true, if_false]
    rw [hleft, hold, hnew]
    have hemp : left.toArray.isEmpty = false := by simpa using hnil
    simp only [hemp, Bool.false_eq_true, if_false]
    have hc2 : ((#[] : Array (Option MapEntry)) ++ (left.toArray ++ (#[] : Array MapEntry)).map some).size = left.length := by simp
    rw [hc2, hj1]
    simp only [Result.andThen_ok]
    have hc3 : ((#[] : Array (Option MapEntry)) ++ (left.toArray ++ (#[] : Array MapEntry)).map some)[j]? = some (some left[j]) := by
      simp [hx]
    rw [hc3]
    simp only [Sem.run_bind]
    rw [show seen.toArray.push left[j].born = (seen ++ [left[j].born]).toArray by simp, h1]
    rfl
end
end Go.Fw
