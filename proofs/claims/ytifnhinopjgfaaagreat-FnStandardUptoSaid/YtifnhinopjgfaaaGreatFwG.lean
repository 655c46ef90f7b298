/-
  Maps: what a map holds as a list of pairs; look-ups, stores, 'm[k] += v', delete, len, ranging. Conditions: as each lemma states them.
-/
import Derived.Test.YtifnhinopjgfaaaGreatFwF
namespace Go.Fw
open Go

section
variable {κ : Type} [DecidableEq κ]

/-- where k stands, and what it holds -/
def mix : List (κ × Value) → κ → Nat → Option (Nat × Value)
 | [], _, _ => none
 | (k', v) :: r, k, i => if k = k' then some (i, v) else mix r k (i + 1)
def mget (ms : List (κ × Value)) (k : κ) : Option Value := (mix ms k 0).map (·.2)
/-- k set to v: in its place, or at the end -/
def mset : List (κ × Value) → κ → Value → List (κ × Value)
 | [], k, v => [(k, v)]
 | (k', u) :: r, k, v => if k = k' then (k', v) :: r else (k', u) :: mset r k v
theorem mix_shift (ms : List (κ × Value)) (k : κ) (i : Nat) : mix ms k i = (mix ms k 0).map fun p => (p.1 + i, p.2) := by
 induction ms generalizing i with
 | nil => rfl
 | cons p r ih =>
  obtain ⟨k', v⟩ := p
  simp only [mix]
  split
  ·simp
  ·rw [ih (i + 1), ih 1]
   cases mix r k 0 <;> simp; omega
theorem mget_nil (k : κ) : mget ([] : List (κ × Value)) k = none := rfl
theorem mget_cons (k' : κ) (v : Value) (r : List (κ × Value)) (k : κ) : mget ((k', v) :: r) k = if k = k' then some v else mget r k := by
 unfold mget
 simp only [mix]
 split
 ·rfl
 ·rw [mix_shift r k 1]
  cases mix r k 0 <;> simp
theorem mget_none {ms : List (κ × Value)} {k : κ} : mget ms k = none ↔ k ∉ ms.map (·.1) := by
 induction ms with
 | nil => simp [mget_nil]
 | cons p r ih =>
  obtain ⟨k', u⟩ := p
  rw [mget_cons]
  by_cases h : k = k'
  ·simp [h]
  ·simp [h, ih]
theorem mget_mem {ms : List (κ × Value)} {k : κ} {v : Value} (h : mget ms k = some v) : (k, v) ∈ ms := by
 induction ms with
 | nil => simp [mget_nil] at h
 | cons p r ih =>
  obtain ⟨k', u⟩ := p
  rw [mget_cons] at h
  by_cases hk : k = k'
  ·simp [hk] at h; simp [hk, h]
  ·simp [hk] at h; simp [ih h]
theorem mget_of_mem {ms : List (κ × Value)} (hn : (ms.map (·.1)).Nodup) {k : κ} {v : Value} (h : (k, v) ∈ ms) : mget ms k = some v := by
 induction ms with
 | nil => simp at h
 | cons p r ih =>
  obtain ⟨k', u⟩ := p
  simp only [List.map_cons, List.nodup_cons] at hn
  rw [mget_cons]
  rcases List.mem_cons.1 h with h2 | h2
  ·simp only [Prod.mk.injEq] at h2; simp [h2.1, h2.2]
  ·have hne : k ≠ k' := by
    rintro rfl
    exact hn.1 (List.mem_map.2 ⟨(k, v), h2, rfl⟩)
   simp [hne, ih hn.2 h2]
theorem mset_keys (ms : List (κ × Value)) (k : κ) (v : Value) : (mset ms k v).map (·.1) = if k ∈ ms.map (·.1) then ms.map (·.1) else ms.map (·.1) ++ [k] := by
 induction ms with
 | nil => simp [mset]
 | cons p r ih =>
  obtain ⟨k', u⟩ := p
  simp only [mset]
  by_cases h : k = k'
  ·simp [h]
  ·simp only [h, if_false, List.map_cons, ih, List.mem_cons, false_or]
   split <;> simp
theorem mset_nodup {ms : List (κ × Value)} (hn : (ms.map (·.1)).Nodup) (k : κ) (v : Value) : ((mset ms k v).map (·.1)).Nodup := by
 rw [mset_keys]
 split
 ·exact hn
 ·rename_i h
  rw [List.nodup_append]
  refine ⟨hn, by simp, ?_⟩
  intro a ha b hb
  simp at hb
  subst hb
  rintro rfl
  exact h ha
/-- the entries of a map whose pairs are ms -/
structure MEnc (enc : κ → Value) (ms : List (κ × Value)) (es : List MapEntry) (ck : Nat) : Prop where
 kv : es.map (fun x => (x.key, x.val)) = ms.map fun p => (enc p.1, p.2)
 keys : (ms.map (·.1)).Nodup
 born : (es.map (·.born)).Nodup
 lt : ∀ x ∈ es, x.born < ck

/-- what is asked of a key type: the look-up finds what 'mix' finds -/
structure KeyT (P : Program) (kt : Nat) (enc : κ → Value) (ok : World → κ → Prop) : Prop where
 check : ∀ w em k, (Instr.checkKey em 10000 kt (enc k)).run P w = .ok () w
 find : ∀ (w : World) (ms : List (κ × Value)) (es : List MapEntry) (k : κ), es.map (fun x => (x.key, x.val)) = ms.map (fun p => (enc p.1, p.2)) → (∀ p ∈ ms, ok w p.1) → ok w k → (Instr.findKey kt (enc k) es).run P w = .ok (mix ms k 0) w
 bits : ∀ k, Instr.sameBits 10000 (enc k) (enc k) = true

theorem run_findNow {ds : TypeDesc} {enc : κ → Value} {k : κ} (hs : ∀ k k', Instr.sameNow ds (enc k) (enc k') = some (decide (k = k'))) : ∀ (ms : List (κ × Value)) (es : List MapEntry) (i : Nat), es.map (fun x => (x.key, x.val)) = ms.map (fun p => (enc p.1, p.2)) →
  Instr.findNow ds (enc k) es i = some (mix ms k i)
 | [], es, i, h => by
  cases es with
  | nil => rfl
  | cons x es => simp at h
 | (k', v) :: r, es, i, h => by
  cases es with
  | nil => simp at h
  | cons x es =>
   simp only [List.map_cons, List.cons.injEq, Prod.mk.injEq] at h
   simp only [Instr.findNow, mix, h.1.1, h.1.2, hs]
   by_cases hk : k = k'
   ·simp [hk]
   ·simp only [hk, decide_false, if_false]
    exact run_findNow hs r es (i + 1) h.2
theorem KeyT.of_now {P : Program} {kt : Nat} {enc : κ → Value} (hu : ∃ ds, (∀ w, (underlying kt).run P w = .ok ds w) ∧ ∀ k k', Instr.sameNow ds (enc k) (enc k') = some (decide (k = k'))) (hc : ∀ w em k, (Instr.checkKey em 10000 kt (enc k)).run P w = .ok () w)
  (hb : ∀ k, Instr.sameBits 10000 (enc k) (enc k) = true) : KeyT P kt enc (fun _ _ => True) := by
 refine ⟨hc, ?_, hb⟩
 intro w ms es k h _ _
 obtain ⟨ds, hds, hn⟩ := hu
 simp only [Instr.findKey]
 simp only [Sem.run_bind, hds, Result.andThen_ok, run_findNow hn ms es 0 h]
 rfl
end

theorem ba_beq (x y : ByteArray) : (x == y) = decide (x = y) := by
 have h : (x == y) = (x.data == y.data) := by cases x; cases y; rfl
 rw [h, Bool.eq_iff_iff]
 cases x; cases y
 simp
theorem check_string {P : Program} {kt : Nat} (hu : ∀ w, (underlying kt).run P w = .ok .string w) (m : Nat) (em : Bool) (k : ByteArray) (w : World) : (Instr.checkKey em (m + 1) kt (.string k)).run P w = .ok () w := by
 simp only [Instr.checkKey, Sem.run_bind, hu, Result.andThen_ok]; rfl
theorem keyT_string {P : Program} {kt : Nat} (hu : ∀ w, (underlying kt).run P w = .ok .string w) : KeyT P kt Value.string (fun _ _ => True) := by
 refine KeyT.of_now ⟨_, hu, fun k k' => ?_⟩ (fun w em k => check_string hu 9999 em k w) (fun k => ?_)
 ·simp only [Instr.sameNow, ba_beq]
 ·have h : ∀ m, Instr.sameBits m (.string k) (.string k) = true := fun m => by cases m <;> simp [Instr.sameBits, ba_beq]
  exact h _
section
variable {κ : Type} [DecidableEq κ] {enc : κ → Value} {ms : List (κ × Value)} {es : List MapEntry} {ck : Nat}

omit [DecidableEq κ] in
theorem MEnc.nil : MEnc enc [] [] 0 := ⟨rfl, by simp, by simp, by simp⟩
omit [DecidableEq κ] in
theorem MEnc.length (h : MEnc enc ms es ck) : es.length = ms.length := by
 have := congrArg List.length h.kv
 simpa using this

theorem mix_some_lt {k : κ} {i : Nat} {v : Value} (h : mix ms k 0 = some (i, v)) : ms[i]? = some (k, v) := by
 induction ms generalizing i with
 | nil => simp [mix] at h
 | cons p r ih =>
  obtain ⟨k', u⟩ := p
  simp only [mix] at h
  split at h
  ·rename_i hk
   simp at h
   obtain ⟨rfl, rfl⟩ := h
   simp [hk]
  ·rw [mix_shift] at h
   cases hm : mix r k 0 with
   | none => simp [hm] at h
   | some q =>
    obtain ⟨j, u'⟩ := q
    simp only [hm, Option.map_some, Option.some.injEq, Prod.mk.injEq] at h
    obtain ⟨rfl, rfl⟩ := h
    simpa using ih hm
theorem mset_of_some {k : κ} {i : Nat} {v u : Value} (h : mix ms k 0 = some (i, v)) : mset ms k u = ms.modify i fun p => (p.1, u) := by
 induction ms generalizing i with
 | nil => simp [mix] at h
 | cons p r ih =>
  obtain ⟨k', v'⟩ := p
  simp only [mix] at h
  simp only [mset]
  split at h
  ·rename_i hk
   simp at h
   obtain ⟨rfl, rfl⟩ := h
   simp [hk]
  ·rename_i hk
   rw [mix_shift] at h
   cases hm : mix r k 0 with
   | none => simp [hm] at h
   | some q =>
    obtain ⟨j, u'⟩ := q
    simp only [hm, Option.map_some, Option.some.injEq, Prod.mk.injEq] at h
    obtain ⟨rfl, rfl⟩ := h
    simp [hk, ih hm]
theorem mset_of_none {k : κ} {u : Value} (h : mix ms k 0 = none) : mset ms k u = ms ++ [(k, u)] := by
 induction ms with
 | nil => rfl
 | cons p r ih =>
  obtain ⟨k', v'⟩ := p
  simp only [mix] at h
  simp only [mset]
  split at h
  ·simp at h
  ·rename_i hk
   rw [mix_shift] at h
   have : mix r k 0 = none := by cases hm : mix r k 0 <;> simp_all
   simp [hk, ih this]
theorem MEnc.set_some (h : MEnc enc ms es ck) {k : κ} {i : Nat} {v u : Value} (hm : mix ms k 0 = some (i, v)) : MEnc enc (mset ms k u) (es.modify i fun x => { x with key := enc k, val := u }) ck := by
 have hi := mix_some_lt hm
 refine ⟨?_, mset_nodup h.keys k u, ?_, ?_⟩
 ·rw [mset_of_some hm]
  apply List.ext_getElem?
  intro j
  have hj := congrArg (fun l => l[j]?) h.kv
  simp only [List.getElem?_map] at hj
  simp only [List.getElem?_map, List.getElem?_modify, Option.map_eq_map]
  by_cases hij : i = j
  ·subst hij
   rw [hi] at hj ⊢
   simp only [Option.map_some, Option.map_eq_some_iff] at hj
   obtain ⟨x, hx, _⟩ := hj
   simp [hx]
  ·simp only [hij, if_false, Option.map_map]
   exact hj
 ·have : (es.modify i fun x => { x with key := enc k, val := u }).map (·.born) = es.map (·.born) := by
   apply List.ext_getElem?
   intro j
   simp only [List.getElem?_map, List.getElem?_modify]
   cases es[j]? <;> simp
   split <;> rfl
  rw [this]; exact h.born
 ·intro x hx
  obtain ⟨j, hj⟩ := List.mem_iff_getElem?.1 hx
  rw [List.getElem?_modify, Option.map_eq_map] at hj
  cases hq : es[j]? with
  | none => simp [hq] at hj
  | some y =>
   simp only [hq, Option.map_some, Option.some.injEq] at hj
   have := h.lt y (List.mem_of_getElem? hq)
   subst hj
   split <;> exact this
theorem MEnc.set_none (h : MEnc enc ms es ck) {k : κ} {u : Value} (hm : mix ms k 0 = none) : MEnc enc (mset ms k u) (es ++ [{ key := enc k, val := u, born := ck }]) (ck + 1) := by
 refine ⟨?_, mset_nodup h.keys k u, ?_, ?_⟩
 ·rw [mset_of_none hm]; simp [h.kv]
 ·rw [List.map_append, List.nodup_append]
  refine ⟨h.born, by simp, ?_⟩
  intro a ha b hb
  simp at hb
  subst hb
  obtain ⟨x, hx, rfl⟩ := List.mem_map.1 ha
  have := h.lt x hx
  omega
 ·intro x hx
  rcases List.mem_append.1 hx with hx | hx
  ·have := h.lt x hx; omega
  ·simp at hx; subst hx; simp

variable {P : Program} {kt vt mt : Nat} {ok : World → κ → Prop} {w : World} {b : Nat}

theorem run_getObj {o : Obj} (ho : w.heap[b]? = some o) (hr : Obj.isRow o = false) : (getObj b).run P w = .ok o w := by
 simp only [getObj, Sem.run, ho]
 cases o <;> simp_all [Obj.isRow]
theorem run_setObj {o o' : Obj} (ho : w.heap[b]? = some o) (hr : Obj.isRow o = false) : ∃ w', (setObj b o').run P w = .ok () w' ∧ Upd w w' b o' := by
 refine ⟨{ w with heap := w.heap.setIfInBounds b o' }, ?_, ⟨rfl, rfl, rfl, by simp, ?_, ?_⟩⟩
 ·simp only [setObj, Sem.run, ho]
  cases o <;> simp_all [Obj.isRow]
 ·have := (Array.getElem?_eq_some_iff.1 ho).1
  simp [this]
 ·intro c hc
  simp [Array.getElem?_setIfInBounds_ne (Ne.symm hc)]

theorem run_lookup (hu : ∀ w, (underlying mt).run P w = .ok (.map kt vt) w) (hk : KeyT P kt enc ok) (hM : MEnc enc ms es ck) (ho : w.heap[b]? = some (.map es.toArray ck)) (hok : ∀ p ∈ ms, ok w p.1) {k : κ} (hkk : ok w k) {z : Value} (hz : ∀ w, (zeroValue vt).run P w = .ok z w) (c : Bool) :
  (Instr.lookup mt (.map (some b)) (enc k) c).run P w = .ok (if c then .tuple #[(mget ms k).getD z, .bool (mget ms k).isSome] else (mget ms k).getD z) w := by
 simp only [Instr.lookup]
 simp only [Sem.run_bind, hu, Result.andThen_ok, run_getObj ho rfl, Sem.run_pure, hk.check, hk.find w ms es k hM.kv hok hkk]
 unfold mget
 cases hm : mix ms k 0 with
 | none => cases c <;> simp [hz]
 | some q => obtain ⟨i, v⟩ := q; cases c <;> simp
theorem run_lookup_nil (hu : ∀ w, (underlying mt).run P w = .ok (.map kt vt) w) (hk : KeyT P kt enc ok) {k : κ} (hkk : ok w k) {z : Value} (hz : ∀ w, (zeroValue vt).run P w = .ok z w) (c : Bool) :
  (Instr.lookup mt (.map none) (enc k) c).run P w = .ok (if c then .tuple #[z, .bool false] else z) w := by
 have hf := hk.find w ([] : List (κ × Value)) [] k rfl (by simp) hkk
 simp only [Instr.lookup]
 simp only [Sem.run_bind, hu, Result.andThen_ok, Sem.run_pure, hk.check]
 simp only [hf, Result.andThen_ok, mix, Sem.run_bind, hz, Sem.run_pure]
theorem run_keyStays (hk : KeyT P kt enc ok) (k : κ) : (Instr.keyThatStays (enc k) (enc k)).run P w = .ok (enc k) w := by
 simp [Instr.keyThatStays, hk.bits]
theorem run_mapUpdate (hu : ∀ w, (underlying mt).run P w = .ok (.map kt vt) w) (hk : KeyT P kt enc ok) (hM : MEnc enc ms es ck) (ho : w.heap[b]? = some (.map es.toArray ck)) (hok : ∀ p ∈ ms, ok w p.1) {k : κ} (hkk : ok w k) (u : Value) :
  ∃ es' ck' w', (Instr.mapUpdate mt (.map (some b)) (enc k) u).run P w = .ok () w' ∧ MEnc enc (mset ms k u) es' ck' ∧ Upd w w' b (.map es'.toArray ck') := by
 cases hm : mix ms k 0 with
 | none =>
  obtain ⟨w', h1, h2⟩ := run_setObj (P := P) (o' := .map (es ++ [({ key := enc k, val := u, born := ck } : MapEntry)]).toArray (ck + 1)) ho rfl
  refine ⟨_, _, w', ?_, hM.set_none hm, h2⟩
  simp only [Instr.mapUpdate]
  simp only [Sem.run_bind, hu, Result.andThen_ok, run_getObj ho rfl, hk.check, hk.find w ms es k hM.kv hok hkk, hm]
  rw [show es.toArray.push ({ key := enc k, val := u, born := ck } : MapEntry) = (es ++ [({ key := enc k, val := u, born := ck } : MapEntry)]).toArray by simp]
  exact h1
 | some q =>
  obtain ⟨i, v⟩ := q
  have hi := mix_some_lt hm
  have hj := congrArg (fun l => l[i]?) hM.kv
  simp only [List.getElem?_map, hi, Option.map_some, Option.map_eq_some_iff] at hj
  obtain ⟨x, hx, hxk⟩ := hj
  simp only [Prod.mk.injEq] at hxk
  obtain ⟨w', h1, h2⟩ := run_setObj (P := P) (o' := .map (es.modify i fun x => { x with key := enc k, val := u }).toArray ck) ho rfl
  refine ⟨_, _, w', ?_, hM.set_some hm, h2⟩
  have hkey : ((es.toArray[i]?).map (·.key)).getD (enc k) = enc k := by simp [hx, hxk.1]
  simp only [Instr.mapUpdate]
  simp only [Sem.run_bind, hu, Result.andThen_ok, run_getObj ho rfl, hk.check, hk.find w ms es k hM.kv hok hkk, hm, hkey, run_keyStays hk]
  rw [show (es.toArray.modify i fun (x : MapEntry) => { x with key := enc k, val := u }) = (es.modify i fun (x : MapEntry) => { x with key := enc k, val := u }).toArray by simp]
  exact h1
end
end Go.Fw
