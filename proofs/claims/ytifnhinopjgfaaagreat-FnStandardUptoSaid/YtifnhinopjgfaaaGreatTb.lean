/-
  The table of strings that a written profile has: a map while it is made. Conditions: there are few strings.
-/
import Derived.Test.YtifnhinopjgfaaaGreatPe
namespace Go.Proofs.YtifnhinopjgfaaaGreat
open Go Go.Fw Go.Proofs Go.Proofs.Tryz
def tabM (T : List ByteArray) : List (ByteArray × Value) := T.zipIdx.map fun p => (p.1, .int .i64 (p.2 : Nat))
theorem tabM_keys (T : List ByteArray) : (tabM T).map (·.1) = T := by rw [tabM, List.map_map]; exact List.zipIdx_map_fst 0 T
theorem tabM_push (T : List ByteArray) (s : ByteArray) : tabM (T ++ [s]) = tabM T ++ [(s, .int .i64 (T.length : Nat))] := by simp [tabM, List.zipIdx_append]
theorem tabM_mem {T : List ByteArray} {s : ByteArray} {v : Value} (h : (s, v) ∈ tabM T) : ∃ i : Nat, v = .int .i64 (i : Nat) ∧ T[i]? = some s := by
 obtain ⟨⟨s', i⟩, hm, he⟩ := List.mem_map.1 h
 injection he with e1 e2
 subst e1
 exact ⟨i, e2.symm, (List.mem_zipIdx_iff_getElem?).1 hm⟩
/-- the table, in memory: its strings, in the order of their numbers; all of them are of S -/
structure Tab (w : World) (mb : Nat) (S T : List ByteArray) : Prop where
 ex : ∃ (es : List MapEntry) (ck : Nat), w.heap[mb]? = some (.map es.toArray ck) ∧ MEnc Value.string (tabM T) es ck
 sub : ∀ s ∈ T, s ∈ S
theorem nodup_lenB : ∀ {l m : List ByteArray}, l.Nodup → (∀ x ∈ l, x ∈ m) → l.length ≤ m.length
 | [], _, _, _ => Nat.zero_le _
 | a :: r, m, h, hs => by
  letI : BEq ByteArray := instBEqOfDecidableEq
  have h1 := List.nodup_cons.1 h
  have ha : a ∈ m := hs a (by simp)
  have := nodup_lenB (l := r) (m := m.erase a) h1.2 fun x hx => (List.mem_erase_of_ne (by rintro rfl; exact h1.1 hx)).2 (hs x (by simp [hx]))
  rw [List.length_erase_of_mem ha] at this
  have := List.length_pos_of_mem ha
  simp only [List.length_cons]
  omega
theorem Tab.nodup {w : World} {mb : Nat} {S T : List ByteArray} (h : Tab w mb S T) : T.Nodup := by
 obtain ⟨es, ck, -, hM⟩ := h.ex
 have := hM.keys
 rwa [tabM_keys] at this
theorem Tab.len {w : World} {mb : Nat} {S T : List ByteArray} (h : Tab w mb S T) : T.length ≤ S.length := nodup_lenB h.nodup h.sub
theorem Tab.keep {w w' : World} {mb : Nat} {S T : List ByteArray} (h : Tab w mb S T) (k : ∀ es ck, w.heap[mb]? = some (.map es ck) → w'.heap[mb]? = some (.map es ck)) : Tab w' mb S T := by
 obtain ⟨es, ck, h1, h2⟩ := h.ex
 exact ⟨⟨es, ck, k _ _ h1, h2⟩, h.sub⟩
theorem msetNew {κ : Type} [DecidableEq κ] : ∀ {ms : List (κ × Value)} {k : κ} {v : Value}, k ∉ ms.map (·.1) → mset ms k v = ms ++ [(k, v)]
 | [], _, _, _ => rfl
 | (k', y) :: r, k, v, h => by
  simp only [List.map_cons, List.mem_cons, not_or] at h
  simp only [mset, if_neg h.1, msetNew h.2, List.cons_append]
theorem add_c (w : World) (mb : Nat) (S T : List ByteArray) (s : ByteArray) (hT : Tab w mb S T) (hs : s ∈ S) (hS : S.length ≤ 100000000000) :
  Calls Tryz.prog 72 #[.map (some mb), .string s] w (Ret fun v w' => ∃ (T' : List ByteArray) (n : Nat), v = .int .i64 (n : Nat) ∧ T'[n]? = some s ∧ T <+: T' ∧ Tab w' mb S T' ∧ KeepX [mb] w w' ∧ (T' = T ∨ T' = T ++ [s])) := by
 obtain ⟨es, ck, hmb, hM⟩ := hT.ex
 have hTl := hT.len
 have hel : es.length = T.length := by have := hM.length; simpa [tabM] using this
 refine startJ (args := [_, _]) [(0, _), (1, _)] 0 [1000000] _ func72 rfl ntmps72 rfl rfl (Hp.oneMap hmb (Nat.zero_le _) rfl) ?_
 refine cj_seqF fun K1 hK1 => cj_reg (jA rfl rfl (j_nil (ej_then (hK1 _ _ _ (CJ.s [(0, _), (1, _)] ⟨rfl, rfl, trivial⟩ (cj_seqF fun K2 hK2 => cj_reg (jM rfl rfl (jM rfl rfl (j_valw rfl (fun a w ha hH hf => r_mlook2 (k := s) 0 rfl runUnderlying160 (keyT_string runUnderlying9) hM zeroValue3 rfl rfl (fun _ _ _ => ⟨fun _ _ => trivial, trivial⟩) ha hH hf) (jM rfl rfl (j_val rfl (fun _ _ h => r_extract rfl rfl h) (j_val rfl (fun _ _ h => r_extract rfl rfl h) ?_))))))))))))
 refine jA rfl rfl (jA rfl rfl (j_nil (ej_then (hK2 _ _ _ (CJ.s [(0, _), (1, _), (5, _), (6, _)] ⟨rfl, rfl, rfl, rfl, trivial⟩ (cj_seqF fun K3 hK3 => cj_seqF fun K4 hK4 => cj_reg (jM rfl rfl (j_val rfl (fun _ _ h => r_not rfl h) (j_nil (ej_then (hK4 _ _ _ (CJ.s [(0, _), (1, _), (5, _), (14, _)] ⟨rfl, rfl, rfl, rfl, trivial⟩ ?_))))))))))))
 refine cj_if rfl (fun h14 => ?_) (fun h14 => ?_)
 ·have hnone : mget (tabM T) s = none := by
   cases hc : mget (tabM T) s with
   | none => rfl
   | some v => rw [hc] at h14; cases h14
  have hnew : s ∉ (tabM T).map (·.1) := mget_none.1 hnone
  refine cj_seqF fun K5 hK5 => cj_reg (jM rfl rfl (j_valw rfl (fun a w ha hH hf => r_mlen 0 rfl runUnderlying160 rfl ha hH) (jA rfl rfl (j_nil (ej_then (hK5 _ _ _ (CJ.s [(0, _), (1, _), (5, _)] ⟨rfl, rfl, rfl, trivial⟩ (cj_reg (jM rfl rfl (jM rfl rfl (jM rfl rfl ?_)))))))))))
  refine j_mapupd (k := s) 0 rfl runUnderlying160 (keyT_string runUnderlying9) hM rfl rfl rfl (fun _ _ _ => ⟨fun _ _ => trivial, trivial⟩) fun es' ck' hM' => ?_
  have hM2 : MEnc Value.string (tabM (T ++ [s])) es' ck' := by rw [tabM_push, ← msetNew hnew, ← hel]; exact hM'
  refine j_nil (ej_then (hK3 _ _ _ (CJ.s [(5, _)] ⟨rfl, trivial⟩ (cj_seqF fun K6 hK6 => cj_reg (jM rfl rfl (jA rfl rfl (j_nil (ej_then (hK6 _ _ _ (CJ.s [(4, _)] ⟨rfl, trivial⟩ (cj_ret (?_))))))))))))
  first
   | exact ej_ret1 results72 rfl fun w' hH hf => ⟨T ++ [s], es.length, rfl, by simp [hel], List.prefix_append _ _, ⟨⟨es', ck', hH.obj (i := 0) rfl rfl, hM2⟩, fun x hx => by
     rcases List.mem_append.1 hx with hx | hx
     ·exact hT.sub x hx
     ·simp at hx; subst hx; exact hs⟩, Hp.keepX (l := [mb]) hH.2.2.2 hf, .inr rfl⟩
   | exact ej_ret1 results72 rfl fun w' hH hf => ⟨T, i, by rw [hv]; rfl, hi, List.prefix_refl _, ⟨⟨es, ck, hH.obj (i := 0) rfl rfl, hM⟩, hT.sub⟩, Hp.keepX (l := [mb]) hH.2.2.2 hf, .inl rfl⟩
 ·obtain ⟨v, hv⟩ : ∃ v, mget (tabM T) s = some v := by
   cases hc : mget (tabM T) s with
   | none => rw [hc] at h14; cases h14
   | some v => exact ⟨v, rfl⟩
  obtain ⟨i, rfl, hi⟩ := tabM_mem (mget_mem hv)
  refine cj_skip (ej_then (hK3 _ _ _ (CJ.s [(5, _)] ⟨rfl, trivial⟩ (cj_seqF fun K7 hK7 => cj_reg (jM rfl rfl (jA rfl rfl (j_nil (ej_then (hK7 _ _ _ (CJ.s [(4, _)] ⟨rfl, trivial⟩ (cj_ret (?_))))))))))))
  first
   | exact ej_ret1 results72 rfl fun w' hH hf => ⟨T ++ [s], es.length, rfl, by simp [hel], List.prefix_append _ _, ⟨⟨es', ck', hH.obj (i := 0) rfl rfl, hM2⟩, fun x hx => by
     rcases List.mem_append.1 hx with hx | hx
     ·exact hT.sub x hx
     ·simp at hx; subst hx; exact hs⟩, Hp.keepX (l := [mb]) hH.2.2.2 hf, .inr rfl⟩
   | exact ej_ret1 results72 rfl fun w' hH hf => ⟨T, i, by rw [hv]; rfl, hi, List.prefix_refl _, ⟨⟨es, ck, hH.obj (i := 0) rfl rfl, hM⟩, hT.sub⟩, Hp.keepX (l := [mb]) hH.2.2.2 hf, .inl rfl⟩
end Go.Proofs.YtifnhinopjgfaaaGreat
