/-
  Entries that a range visits; labels in memory, as they are read. Conditions: as each lemma states them.
-/
import Derived.Test.YtifnhinopjgfaaaGreatSo
namespace Go.Proofs.YtifnhinopjgfaaaGreat
open Go Go.Fw Go.Proofs Go.Proofs.Tryz
theorem nodup_len : ∀ {l m : List Nat}, l.Nodup → (∀ x ∈ l, x ∈ m) → l.length ≤ m.length
 | [], _, _, _ => Nat.zero_le _
 | a :: r, m, h, hs => by
  have h1 := List.nodup_cons.1 h
  have ha : a ∈ m := hs a (by simp)
  have := nodup_len (l := r) (m := m.erase a) h1.2 fun x hx => (List.mem_erase_of_ne (by rintro rfl; exact h1.1 hx)).2 (hs x (by simp [hx]))
  rw [List.length_erase_of_mem ha] at this
  have := List.length_pos_of_mem ha
  simp only [List.length_cons]
  omega
/-- entries visited: all different, all of the map -/
structure Vis (es xs : List MapEntry) (seen : List Nat) : Prop where
 sn : xs.map (·.born) = seen
 nd : seen.Nodup
 sub : ∀ x ∈ xs, x ∈ es
theorem Vis.nil {es : List MapEntry} : Vis es [] [] := ⟨rfl, by simp, by simp⟩
theorem Vis.push {es xs : List MapEntry} {seen : List Nat} {x : MapEntry} (h : Vis es xs seen) (hx : x ∈ es) (hn : x.born ∉ seen) : Vis es (xs ++ [x]) (seen ++ [x.born]) :=
 ⟨by simp [h.sn], by rw [List.nodup_append]; exact ⟨h.nd, by simp, by simp; intro a ha he; subst he; exact hn ha⟩, fun y hy => by
  rcases List.mem_append.1 hy with hy | hy
  ·exact h.sub y hy
  ·simp at hy; subst hy; exact hx⟩
theorem Vis.len {es xs : List MapEntry} {seen : List Nat} (h : Vis es xs seen) (hb : (es.map (·.born)).Nodup) : seen.length ≤ es.length := by
 have h1 : seen ⊆ es.map (·.born) := by
  intro b hb'
  rw [← h.sn] at hb'
  obtain ⟨x, hx, rfl⟩ := List.mem_map.1 hb'
  exact List.mem_map.2 ⟨x, h.sub x hx, rfl⟩
 have := nodup_len h.nd fun x hx => h1 hx
 simpa using this
theorem born_inj {es : List MapEntry} (hb : (es.map (·.born)).Nodup) {x y : MapEntry} (hx : x ∈ es) (hy : y ∈ es) (h : x.born = y.born) : x = y := by
 induction es with
 | nil => cases hx
 | cons a r ih =>
  simp only [List.map_cons, List.nodup_cons] at hb
  rcases List.mem_cons.1 hx with hxa | hx
  ·rcases List.mem_cons.1 hy with hya | hy
   ·rw [hxa, hya]
   ·exact absurd (List.mem_map.2 ⟨y, hy, by rw [← h, hxa]⟩) hb.1
  ·rcases List.mem_cons.1 hy with hya | hy
   ·exact absurd (List.mem_map.2 ⟨x, hx, by rw [h, hya]⟩) hb.1
   ·exact ih hb.2 hx hy
/-- all of them -/
theorem Vis.all {es xs : List MapEntry} {seen : List Nat} (h : Vis es xs seen) (hb : (es.map (·.born)).Nodup) (ha : ∀ x ∈ es, x.born ∈ seen) : ∀ x ∈ es, x ∈ xs := by
 intro x hx
 have := ha x hx
 rw [← h.sn] at this
 obtain ⟨y, hy, he⟩ := List.mem_map.1 this
 rw [← born_inj hb (h.sub y hy) hx he]; exact hy

theorem menc_entry {κ : Type} [DecidableEq κ] {enc : κ → Value} {ms : List (κ × Value)} {es : List MapEntry} {ck : Nat} (h : MEnc enc ms es ck) {x : MapEntry} (hx : x ∈ es) : ∃ p ∈ ms, x.key = enc p.1 ∧ x.val = p.2 := by
 have h1 : (x.key, x.val) ∈ es.map (fun x => (x.key, x.val)) := List.mem_map.2 ⟨x, hx, rfl⟩
 rw [h.kv] at h1
 obtain ⟨p, hp, he⟩ := List.mem_map.1 h1
 injection he with e1 e2
 exact ⟨p, hp, e1.symm, e2.symm⟩
theorem map_inj_string : ∀ {a b : List ByteArray}, a.map Value.string = b.map Value.string → a = b
 | [], [], _ => rfl
 | [], _ :: _, h => by simp at h
 | _ :: _, [], h => by simp at h
 | x :: r, y :: s, h => by
  simp only [List.map_cons, List.cons.injEq, Value.string.injEq] at h
  rw [h.1, map_inj_string h.2]
theorem nodup_map_inj {α β : Type} {g : α → β} : ∀ {es : List α}, (es.map g).Nodup → ∀ {x y : α}, x ∈ es → y ∈ es → g x = g y → x = y
 | [], _, _, _, hx, _, _ => by cases hx
 | a :: r, hb, x, y, hx, hy, h => by
  simp only [List.map_cons, List.nodup_cons] at hb
  rcases List.mem_cons.1 hx with hxa | hx
  ·rcases List.mem_cons.1 hy with hya | hy
   ·rw [hxa, hya]
   ·exact absurd (List.mem_map.2 ⟨y, hy, by rw [← h, hxa]⟩) hb.1
  ·rcases List.mem_cons.1 hy with hya | hy
   ·exact absurd (List.mem_map.2 ⟨x, hx, by rw [h, hya]⟩) hb.1
   ·exact nodup_map_inj hb.2 hx hy h
theorem nodup_map_on' {α β : Type} {g : α → β} : ∀ {xs : List α}, xs.Nodup → (∀ x ∈ xs, ∀ y ∈ xs, g x = g y → x = y) → (xs.map g).Nodup
 | [], _, _ => by simp
 | a :: r, h, hi => by
  have h1 := List.nodup_cons.1 h
  simp only [List.map_cons, List.nodup_cons]
  refine ⟨fun hm => ?_, nodup_map_on' h1.2 fun x hx y hy => hi x (by simp [hx]) y (by simp [hy])⟩
  obtain ⟨y, hy, he⟩ := List.mem_map.1 hm
  rw [hi y (by simp [hy]) a (by simp) he] at hy
  exact h1.1 hy
theorem nodup_of_map' {α β : Type} {g : α → β} : ∀ {xs : List α}, (xs.map g).Nodup → xs.Nodup
 | [], _ => by simp
 | a :: r, h => by
  simp only [List.map_cons, List.nodup_cons] at h ⊢
  exact ⟨fun hm => h.1 (List.mem_map.2 ⟨a, hm, rfl⟩), nodup_of_map' h.2⟩
theorem Vis.keys {ms : List (ByteArray × Value)} {es xs : List MapEntry} {seen : List Nat} {ck : Nat} (h : Vis es xs seen) (hM : MEnc Value.string ms es ck) (ha : ∀ x ∈ es, x.born ∈ seen) : ∃ ks : List ByteArray, xs.map (·.key) = ks.map .string ∧ ks.Nodup ∧ ∀ k, k ∈ ks ↔ k ∈ ms.map (·.1) := by
 have hall := h.all hM.born ha
 have hkey : ∀ x ∈ es, ∃ k, x.key = .string k ∧ k ∈ ms.map (·.1) := fun x hx => by
  obtain ⟨p, hp, h1, -⟩ := menc_entry hM hx
  exact ⟨p.1, h1, List.mem_map.2 ⟨p, hp, rfl⟩⟩
 let kof : MapEntry → ByteArray := fun x => match x.key with
  | .string k => k
  | _ => ⟨#[]⟩
 have hk : ∀ x ∈ es, x.key = .string (kof x) := fun x hx => by
  obtain ⟨k, h1, -⟩ := hkey x hx
  simp only [kof, h1]
 have hxn : xs.Nodup := by
  have := h.nd
  rw [← h.sn] at this
  exact nodup_of_map' this
 have hen : (es.map kof).Nodup := by
  have h1 : es.map (fun x => x.key) = ms.map fun p => Value.string p.1 := by
   have := congrArg (List.map Prod.fst) hM.kv
   simpa [List.map_map, Function.comp_def] using this
  have h2 : es.map (fun x => x.key) = (es.map kof).map Value.string := by
   rw [List.map_map]
   exact List.map_congr_left fun x hx => hk x hx
  have h3 : es.map kof = ms.map (·.1) := by
   have h4 : (es.map kof).map Value.string = (ms.map (·.1)).map Value.string := by rw [← h2, h1, List.map_map]; rfl
   exact map_inj_string h4
  rw [h3]; exact hM.keys
 refine ⟨xs.map kof, ?_, ?_, fun k => ⟨fun hm => ?_, fun hm => ?_⟩⟩
 ·rw [List.map_map]
  exact List.map_congr_left fun x hx => hk x (h.sub x hx)
 ·exact nodup_map_on' hxn fun x hx y hy he => nodup_map_inj hen (h.sub x hx) (h.sub y hy) he
 ·obtain ⟨x, hx, rfl⟩ := List.mem_map.1 hm
  obtain ⟨k, h1, h2⟩ := hkey x (h.sub x hx)
  have := hk x (h.sub x hx)
  rw [h1] at this
  cases this
  exact h2
 ·obtain ⟨p, hp, rfl⟩ := List.mem_map.1 hm
  have h1 : (Value.string p.1, p.2) ∈ ms.map fun p => (Value.string p.1, p.2) := List.mem_map.2 ⟨p, hp, rfl⟩
  rw [← hM.kv] at h1
  obtain ⟨x, hx, he⟩ := List.mem_map.1 h1
  refine List.mem_map.2 ⟨x, hall x hx, ?_⟩
  have h2 := hk x hx
  injection he with e1 e2
  rw [e1] at h2
  exact (Value.string.inj h2).symm
/-- labels in memory, as they are read -/
structure LabX (T : Nat) (w : World) (mo : Option Nat) (ks : List (ByteArray × List Value)) (es : List MapEntry) (ck : Nat) (ms : List (ByteArray × Value)) : Prop where
 enc : MEnc Value.string ms es ck
 at_ : MapAt w mo es ck
 keys : ms.map (·.1) = ks.map (·.1)
 os : ∀ (i : Nat) m k, ms[i]? = some m → ks[i]? = some k → OS T 1 w m.2 k.2
theorem LabM.x {T : Nat} {w : World} {v : Value} {ks : List (ByteArray × List Value)} (h : LabM T w v ks) : ∃ mo es ck ms, v = .map mo ∧ LabX T w mo ks es ck ms := by
 rcases h with ⟨rfl, rfl⟩ | ⟨b, es, ck, ms, rfl, h2, h3, h4, h5⟩
 ·exact ⟨none, [], 0, [], rfl, MEnc.nil', .inl ⟨rfl, rfl, rfl⟩, rfl, by simp⟩
 ·exact ⟨some b, es, ck, ms, rfl, h3, .inr ⟨b, rfl, h2⟩, h4, h5⟩
theorem LabX.get {T : Nat} {w : World} {mo : Option Nat} {ks : List (ByteArray × List Value)} {es : List MapEntry} {ck : Nat} {ms : List (ByteArray × Value)} (h : LabX T w mo ks es ck ms) {i : Nat} {k : ByteArray × List Value} (hk : ks[i]? = some k) (z : Value) : ∃ v, (mget ms k.1).getD z = v ∧ OS T 1 w v k.2 := by
 have hl : ms.length = ks.length := by have := congrArg List.length h.keys; simpa using this
 have hi := (List.getElem?_eq_some_iff.1 hk).1
 have hm : ms[i]? = some ms[i] := List.getElem?_eq_getElem (by omega)
 have he : ms[i].1 = k.1 := by
  have h1 : (ms.map (·.1))[i]? = (ks.map (·.1))[i]? := by rw [h.keys]
  rw [List.getElem?_map, List.getElem?_map, hm, hk] at h1
  exact Option.some.inj h1
 refine ⟨ms[i].2, ?_, h.os i _ _ hm hk⟩
 have : (k.1, ms[i].2) ∈ ms := by rw [← he]; exact List.getElem_mem (by omega)
 rw [mget_of_mem h.enc.keys this]; rfl
theorem asc_pw {ks : List ByteArray} (h : ∀ (i : Nat) t u, ks[i]? = some t → ks[i + 1]? = some u → ltB t u = true) : ks.Pairwise fun x y => ltB x y = true := by
 rw [List.pairwise_iff_getElem]
 intro i j hi hj hij
 exact asc_lt h (j - i - 1) i _ _ (List.getElem?_eq_getElem hi) (by rw [show i + (j - i - 1) + 1 = j by omega]; exact List.getElem?_eq_getElem hj)
theorem LabP.tpw {s : PSample} (h : LabP s) : (s.texts.map (·.key)).Pairwise fun x y => ltB x y = true := asc_pw fun i t u ht hu => by
 rw [List.getElem?_map] at ht hu
 obtain ⟨a, ha, rfl⟩ := Option.map_eq_some_iff.1 ht
 obtain ⟨c, hc, rfl⟩ := Option.map_eq_some_iff.1 hu
 exact h.tasc i a c ha hc
theorem LabP.npw {s : PSample} (h : LabP s) : (s.nums.map (·.key)).Pairwise fun x y => ltB x y = true := asc_pw fun i t u ht hu => by
 rw [List.getElem?_map] at ht hu
 obtain ⟨a, ha, rfl⟩ := Option.map_eq_some_iff.1 ht
 obtain ⟨c, hc, rfl⟩ := Option.map_eq_some_iff.1 hu
 exact h.nasc i a c ha hc
theorem mapAt_rest {u w : World} {f : Fm} {H : Heap} {l : List Nat} {mo : Option Nat} {es : List MapEntry} {ck : Nat} (h : MapAt u mo es ck) (hl : ∀ c, mo = some c → c ∉ l) (hH : Hp f w H) (hs : ∀ x ∈ restH u l, x ∈ H) : MapAt w mo es ck := by
 rcases h with h | ⟨c, rfl, hc⟩
 ·exact .inl h
 ·refine .inr ⟨c, rfl, ?_⟩
  have hlt := (Array.getElem?_eq_some_iff.1 hc).1
  have hm : (⟨c, 0, [], false, false, u.heap[c]?⟩ : Ent) ∈ restH u l := List.mem_map.2 ⟨c, by simp [hlt, hl c rfl], rfl⟩
  exact (hH.has (hs _ hm)).obj _ hc
end Go.Proofs.YtifnhinopjgfaaaGreat
