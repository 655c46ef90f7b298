/-
  Texts that a call sorts. Conditions: as each lemma states them.
-/
import Derived.Test.YtifnhinopjgfaaaGreatShp
import Derived.Test.YtifnhinopjgfaaaGreatPq
import Derived.Sort.OwnSorted
import Derived.Test.YtifnhinopjgfaaaGreatOf
namespace Go.Proofs.YtifnhinopjgfaaaGreat
open Go Go.Fw Go.Proofs Go.Sort
theorem ltB_eq (x y : ByteArray) : ltB x y = decide (x.data.toList < y.data.toList) := by
 rw [ltB, bytesLess_eq, Lib.toList_data, Lib.toList_data]
/-- texts of an ascending list, in whatever order, sorted -/
theorem sorted_asc {ks rs : List ByteArray} (hn : ks.Nodup) (hm : ∀ k, k ∈ ks ↔ k ∈ rs) (ha : rs.Pairwise fun x y => ltB x y = true) :
  (ks.map fun k => k.data.toList).mergeSort (fun x y => decide (x ≤ y)) = rs.map fun k => k.data.toList := by
 have tr : ∀ a b c : List UInt8, decide (a ≤ b) = true → decide (b ≤ c) = true → decide (a ≤ c) = true := fun a b c h1 h2 => by simp only [decide_eq_true_eq] at *; exact List.le_trans h1 h2
 have to : ∀ a b : List UInt8, (decide (a ≤ b) || decide (b ≤ a)) = true := fun a b => by simp only [Bool.or_eq_true, decide_eq_true_eq]; exact List.le_total a b
 have han : rs.Nodup := ha.imp fun {a b} h e => by subst e; rw [ltB_irrefl] at h; cases h
 have hp : ks.Perm rs := (List.perm_ext_iff_of_nodup hn han).2 hm
 refine List.Perm.eq_of_pairwise (le := fun a b => decide (a ≤ b) = true) (fun a b _ _ h1 h2 => ?_) (List.pairwise_mergeSort tr to _) ?_ ((List.mergeSort_perm _ _).trans (hp.map _))
 ·simp only [decide_eq_true_eq] at h1 h2
  exact List.le_antisymm h1 h2
 ·refine List.pairwise_map.2 (ha.imp fun {a b} h => ?_)
  rw [ltB_eq] at h
  simp only [decide_eq_true_eq] at h ⊢
  exact List.le_of_lt h
theorem enc_bytes (ks : List ByteArray) : (ks.map fun k => k.data.toList).map encStr = ks.map .string := by
 rw [List.map_map]
 refine List.map_congr_left fun k _ => ?_
 simp [encStr]
theorem putH_self : ∀ {H : Heap} {i : Nat} {y : Ent}, H[i]? = some y → putH H i y = H
 | [], _, _, h => by simp at h
 | x :: r, 0, y, h => by simp at h; subst h; rfl
 | x :: r, i + 1, y, h => by simp at h; simp [putH, putH_self h]
theorem sortStr_c (w : World) (y : Ent) (p : Option Addr) (l c : Nat) (ks rs : List ByteArray) (hO : Own tStr 1 y p l c (ks.map .string)) (hb : y.on = true → Blk w y.b tStr y.cs) (hn : ks.Nodup) (hm : ∀ k, k ∈ ks ↔ k ∈ rs) (ha : rs.Pairwise fun x y => ltB x y = true) (hl : l ≤ 1000000) :
  Calls Tryz.prog 73 #[.slice p l c] w (Ret fun _ w' => (w' = w ∧ Own tStr 1 y p l c (rs.map .string)) ∨ y.on = true ∧ ∃ cs', Own tStr 1 { y with cs := cs' } p l c (rs.map .string) ∧ Blk w' y.b tStr cs' ∧ KeepX [y.b] w w') := by
 have hlen : ks.length = l := by have := hO.sl.1; simpa using this
 have hp : rs.Perm ks := ((List.perm_ext_iff_of_nodup hn (ha.imp fun {a b} h e => by subst e; rw [ltB_irrefl] at h; cases h)).2 hm).symm
 have hal : rs.length = l := by rw [hp.length_eq, hlen]
 by_cases h0 : l = 0
 ·subst h0
  have e1 : ks = [] := List.eq_nil_of_length_eq_zero hlen
  have e2 : rs = [] := List.eq_nil_of_length_eq_zero hal
  refine (Tryz.sort_Strings_none p c w).mono ?_
  rintro e w' ⟨rfl, rfl⟩
  refine .inl ⟨rfl, ?_⟩
  rw [e2, ← e1]; exact hO
 obtain ⟨hon, hpp⟩ := hO.pos (by omega)
 subst hpp
 have hb := hb hon
 obtain ⟨h1, h2, h3⟩ := hO.sl
 rcases h3 with ⟨-, -, ⟨ex, h4⟩, h5⟩ | ⟨h3, -⟩
 case inr => rw [hon] at h3; cases h3
 have hb' : w.heap[y.b]? = some (.cells y.cs.toArray tStr (0, 0)) := hb
 have hH : Holds encStr w y.b 0 (ks.map fun k => k.data.toList).toArray := holds_of_block hb' (by
  rw [enc_bytes, List.length_map]
  show y.cs.take ks.length = ks.map .string
  rw [h4, List.take_append_of_le_length (by simp), List.take_of_length_le (by simp)])
 have hc := Tryz.sort_Strings y.b 0 c (ks.map fun k => k.data.toList) w hH hb.lt (by simp; omega)
 rw [List.length_map, hlen] at hc
 refine hc.mono ?_
 rintro e w' ⟨rfl, n, os, rfl⟩
 rw [sorted_asc hn hm ha]
 have hs := heap_sorted (n := n) (os := os) (rs.map fun k => k.data.toList).toArray hb'
 have hg := grownBy_sorted (w := w) (g := y.b) (n := n) (os := os) (rs.map fun k => k.data.toList).toArray
 have htk := take_putCells y.cs.toArray (rs.map fun k => k.data.toList) (by simp; omega)
 rw [enc_bytes, List.length_map, hal] at htk
 refine .inr ⟨hon, (putCells encStr 0 (rs.map fun k => k.data.toList).toArray y.cs.toArray).toList, ⟨hO.hT, hO.hw, hO.ho, ?_⟩, by simpa [Blk] using hs, ?_⟩
 ·refine ⟨by simp [hal], h2, .inl ⟨hon, rfl, ⟨(putCells encStr 0 (rs.map fun k => k.data.toList).toArray y.cs.toArray).toList.drop l, ?_⟩, ?_⟩⟩
  ·rw [← htk, List.take_append_drop]
  ·have : (putCells encStr 0 (rs.map fun k => k.data.toList).toArray y.cs.toArray).size = y.cs.length := by simp [putCells]
   simp only [Array.length_toList, this]; exact h5
 ·obtain ⟨g1, g2, g3, g4, g5⟩ := hg
  exact ⟨g1, g2, g3, g4, fun b o ho hne => by
   rw [g5 b (Array.getElem?_eq_some_iff.1 ho).1 (by simp at hne ⊢; exact fun e => hne e)]; exact ho⟩
section
variable {Q : Exit → Act → World → Prop} {n : Nat} {f : Fm} {e : Env} {H : Heap} {ops : Array Oper} {rest : List Oper} {d ty : Nat} {pos : String} {af : Array Edge}
theorem j_sort {y : Ent} {p : Option Addr} {l c : Nat} {ks rs : List ByteArray} {args : Array Operand} {tys : Array TypeId} (i : Nat) (hi : H[i]? = some y) (hO : Own tStr 1 y p l c (ks.map .string)) (hn : ks.Nodup) (hm : ∀ k, k ∈ ks ↔ k ∈ rs) (ha : rs.Pairwise fun x y => ltB x y = true) (hl : l ≤ 1000000)
  (hargs : evL e args.toList = some [.slice p l c]) (hd : Nat.blt d n = true)
  (k : ∀ v y', Own tStr 1 y' p l c (rs.map .string) → J Tryz.prog ops Q n f ((d, v) :: e) (putH H i y') rest) :
  J Tryz.prog ops Q n f e H (⟨some d, .call ⟨.value (.func 73), args, tys⟩, ty, pos, af, none⟩ :: rest) :=
 j_callE (R := fun w _ w' => (w' = w ∧ Own tStr 1 y p l c (rs.map .string)) ∨ y.on = true ∧ ∃ cs', Own tStr 1 { y with cs := cs' } p l c (rs.map .string) ∧ Blk w' y.b tStr cs' ∧ KeepX [y.b] w w') Tryz.call73 hargs hd (fun w hH _ => sortStr_c w y p l c ks rs hO (fun ho => by have := hH.get hi ho; rwa [hO.hT] at this) hn hm ha hl) fun w v w' hH hf hR => by
  rcases hR with ⟨rfl, h1⟩ | ⟨hon, cs', h1, h2, h3⟩
  ·have h2 := k v y h1 w' (by rw [putH_self hi]; exact hH) hf
   exact h2
  ·have hm := hH.may (List.mem_of_getElem? hi) hon hO.hw
   have hex : y.ex = true := by simp [Ent.ex, hon]
   rw [hO.hT] at hm
   refine k v _ h1 w' (hH.putX hi hex rfl (fun _ _ => by rw [h1.tag]; exact hm) h3 ⟨fun _ => by simp only [hO.hT]; exact h2, fun o ho => by simp only [hO.ho] at ho; cases ho⟩) (okK hf h3 hm fun o ho => ?_)
   have h4 := hH.get hi hon
   rw [hO.hT] at h4
   have h5 : w.heap[y.b]? = some (.cells y.cs.toArray tStr (0, 0)) := h4
   rw [ho] at h5; cases h5; rfl
end
end Go.Proofs.YtifnhinopjgfaaaGreat
