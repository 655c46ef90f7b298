/-
  Labels that ascend by their keys are put together as they were. Conditions: as each lemma states them.
-/
import Derived.Test.YtifnhinopjgfaaaGreatDb
import Derived.Test.YtifnhinopjgfaaaGreatVi
namespace Go.Proofs.YtifnhinopjgfaaaGreat
open Go Go.Fw Go.Proofs Go.Proofs.Tryz
section
variable {α : Type}
def gfold (g : List (ByteArray × List α)) (kvs : List (ByteArray × α)) : List (ByteArray × List α) := kvs.foldl (fun g p => gAdd g p.1 p.2) g
def flat (ts : List (ByteArray × List α)) : List (ByteArray × α) := ts.flatMap fun t => t.2.map fun v => (t.1, v)
theorem gfold_last (g0 : List (ByteArray × List α)) (k : ByteArray) : ∀ (vs l : List α), gfold (g0 ++ [(k, l)]) (vs.map fun v => (k, v)) = g0 ++ [(k, l ++ vs)]
 | [], l => by simp [gfold]
 | v :: r, l => by
  have := gfold_last g0 k r (l ++ [v])
  simp only [gfold, List.map_cons, List.foldl_cons, gAdd_last] at this ⊢
  rw [this]; simp
theorem gfold_new {g : List (ByteArray × List α)} {k : ByteArray} (h : ∀ q ∈ g, ltB q.1 k = true) : ∀ {vs : List α}, vs ≠ [] → gfold g (vs.map fun v => (k, v)) = g ++ [(k, vs)]
 | [], hn => absurd rfl hn
 | v :: r, _ => by
  have := gfold_last g k r [v]
  simp only [gfold, List.map_cons, List.foldl_cons, gAdd_new h] at this ⊢
  rw [this]; rfl
theorem gfold_append (g : List (ByteArray × List α)) (a b : List (ByteArray × α)) : gfold g (a ++ b) = gfold (gfold g a) b := List.foldl_append ..
theorem gfold_flat : ∀ {ts g : List (ByteArray × List α)}, (ts.map (·.1)).Pairwise (fun x y => ltB x y = true) → (∀ t ∈ ts, t.2 ≠ []) → (∀ q ∈ g, ∀ t ∈ ts, ltB q.1 t.1 = true) → gfold g (flat ts) = g ++ ts
 | [], g, _, _, _ => by simp [flat, gfold]
 | t :: r, g, hp, hn, hg => by
  have hp' := List.pairwise_cons.1 hp
  have h1 : flat (t :: r) = (t.2.map fun v => (t.1, v)) ++ flat r := by simp [flat]
  rw [h1, gfold_append, gfold_new (fun q hq => hg q hq t (by simp)) (hn t (by simp)), gfold_flat hp'.2 (fun t ht => hn t (by simp [ht])) (fun q hq u hu => by
   rcases List.mem_append.1 hq with hq | hq
   ·exact hg q hq u (by simp [hu])
   ·simp at hq; subst hq; exact hp'.1 _ (List.mem_map_of_mem hu))]
  simp
theorem keyOK_flat : ∀ {ts g : List (ByteArray × List α)}, (ts.map (·.1)).Pairwise (fun x y => ltB x y = true) → (∀ t ∈ ts, t.2 ≠ []) → (∀ q ∈ g, ∀ t ∈ ts, ltB q.1 t.1 = true) → ∀ (i : Nat) p, (flat ts)[i]? = some p → KeyOK (gfold g ((flat ts).take i)) p.1
 | [], g, _, _, _, i, p, h => by simp [flat] at h
 | t :: r, g, hp, hn, hg, i, p, h => by
  have hp' := List.pairwise_cons.1 hp
  have h1 : flat (t :: r) = (t.2.map fun v => (t.1, v)) ++ flat r := by simp [flat]
  rw [h1] at h ⊢
  by_cases hi : i < t.2.length
  ·rw [List.getElem?_append_left (by simpa using hi), List.getElem?_map] at h
   obtain ⟨v, -, rfl⟩ := Option.map_eq_some_iff.1 h
   rw [List.take_append_of_le_length (by simp; omega), ← List.map_take]
   by_cases h0 : i = 0
   ·subst h0
    left
    intro q hq
    simp [gfold] at hq
    exact hg q hq t (by simp)
   ·right
    rw [gfold_new (fun q hq => hg q hq t (by simp)) (by
     intro he
     have := congrArg List.length he
     rw [List.length_take, List.length_nil] at this; omega)]
    exact ⟨g, _, rfl, fun q hq => hg q hq t (by simp)⟩
  ·rw [List.getElem?_append_right (by simp; omega)] at h
   simp only [List.length_map] at h
   rw [List.take_append, List.take_of_length_le (by simp; omega), gfold_append, gfold_new (fun q hq => hg q hq t (by simp)) (hn t (by simp))]
   simp only [List.length_map]
   exact keyOK_flat hp'.2 (fun t ht => hn t (by simp [ht])) (fun q hq u hu => by
    rcases List.mem_append.1 hq with hq | hq
    ·exact hg q hq u (by simp [hu])
    ·simp at hq; subst hq; exact hp'.1 _ (List.mem_map_of_mem hu)) _ p h
end
def kvT (s : PSample) : List (ByteArray × ByteArray) := flat (s.texts.map fun t => (t.key, t.list))
def kvN (s : PSample) : List (ByteArray × Int) := flat (s.nums.map fun t => (t.key, t.list))
theorem labE_eq (s : PSample) : labE s = ((kvT s).map fun p => (p.1, some p.2, 0)) ++ ((kvN s).map fun p => (p.1, none, p.2)) := by
 simp [labE, kvT, kvN, flat, List.flatMap_map, List.map_flatMap, labE1, labE2, Function.comp_def]
 constructor <;> rfl
theorem foldT_T (g : List (ByteArray × List ByteArray)) (l : List (ByteArray × ByteArray)) : (l.map fun p => ((p.1, some p.2, 0) : LE)).foldl addT g = gfold g l := by
 rw [List.foldl_map]; rfl
theorem foldT_N (g : List (ByteArray × List ByteArray)) (l : List (ByteArray × Int)) : (l.map fun p => ((p.1, none, p.2) : LE)).foldl addT g = g := by
 induction l with
 | nil => rfl
 | cons p r ih => rw [List.map_cons, List.foldl_cons]; exact ih
theorem foldN_N (g : List (ByteArray × List Int)) (l : List (ByteArray × Int)) : (l.map fun p => ((p.1, none, p.2) : LE)).foldl addN g = gfold g l := by
 rw [List.foldl_map]; rfl
theorem foldN_T (g : List (ByteArray × List Int)) (l : List (ByteArray × ByteArray)) : (l.map fun p => ((p.1, some p.2, 0) : LE)).foldl addN g = g := by
 induction l with
 | nil => rfl
 | cons p r ih => rw [List.map_cons, List.foldl_cons]; exact ih
theorem foldT_lab {s : PSample} (h : LabP s) : foldT (labE s) = s.texts.map fun t => (t.key, t.list) := by
 unfold foldT
 rw [labE_eq, List.foldl_append, foldT_T, foldT_N]
 have := gfold_flat (ts := (s.texts.map (fun u : PTexts => (u.key, u.list)))) (g := []) (by simpa [Function.comp_def] using h.tpw) (by
  intro t ht
  obtain ⟨u, hu, rfl⟩ := List.mem_map.1 ht
  exact (h.tl u hu).1) (by simp)
 rw [List.nil_append] at this; exact this
theorem foldN_lab {s : PSample} (h : LabP s) : foldN (labE s) = s.nums.map fun t => (t.key, t.list) := by
 unfold foldN
 rw [labE_eq, List.foldl_append, foldN_T, foldN_N]
 have := gfold_flat (ts := (s.nums.map (fun u : PNums => (u.key, u.list)))) (g := []) (by simpa [Function.comp_def] using h.npw) (by
  intro t ht
  obtain ⟨u, hu, rfl⟩ := List.mem_map.1 ht
  exact (h.nl u hu).1) (by simp)
 rw [List.nil_append] at this; exact this
theorem labE_kT {s : PSample} (h : LabP s) (i : Nat) (e : LE) (t : ByteArray) (he : (labE s)[i]? = some e) (ht : e.2.1 = some t) : KeyOK (foldT ((labE s).take i)) e.1 := by
 rw [labE_eq] at he ⊢
 by_cases hi : i < (kvT s).length
 ·rw [List.getElem?_append_left (by simpa using hi), List.getElem?_map] at he
  obtain ⟨p, hp, rfl⟩ := Option.map_eq_some_iff.1 he
  rw [List.take_append_of_le_length (by simp; omega), ← List.map_take]
  unfold foldT
  rw [foldT_T]
  exact keyOK_flat (ts := (s.texts.map (fun u : PTexts => (u.key, u.list)))) (g := []) (by simpa [Function.comp_def] using h.tpw) (by
   intro t ht
   obtain ⟨u, hu, rfl⟩ := List.mem_map.1 ht
   exact (h.tl u hu).1) (by simp) i p hp
 ·rw [List.getElem?_append_right (by simp; omega), List.getElem?_map] at he
  obtain ⟨p, hp, rfl⟩ := Option.map_eq_some_iff.1 he
  cases ht
theorem labE_kN {s : PSample} (h : LabP s) (i : Nat) (e : LE) (he : (labE s)[i]? = some e) (ht : e.2.1 = none) : KeyOK (foldN ((labE s).take i)) e.1 := by
 rw [labE_eq] at he ⊢
 by_cases hi : i < (kvT s).length
 ·rw [List.getElem?_append_left (by simpa using hi), List.getElem?_map] at he
  obtain ⟨p, hp, rfl⟩ := Option.map_eq_some_iff.1 he
  cases ht
 ·rw [List.getElem?_append_right (by simp; omega), List.getElem?_map] at he
  obtain ⟨p, hp, rfl⟩ := Option.map_eq_some_iff.1 he
  rw [List.take_append, List.take_of_length_le (by simp; omega), ← List.map_take]
  unfold foldN
  rw [List.foldl_append, foldN_T, foldN_N]
  simp only [List.length_map] at hp ⊢
  exact keyOK_flat (ts := (s.nums.map (fun u : PNums => (u.key, u.list)))) (g := []) (by simpa [Function.comp_def] using h.npw) (by
   intro t ht
   obtain ⟨u, hu, rfl⟩ := List.mem_map.1 ht
   exact (h.nl u hu).1) (by simp) _ p hp
end Go.Proofs.YtifnhinopjgfaaaGreat
