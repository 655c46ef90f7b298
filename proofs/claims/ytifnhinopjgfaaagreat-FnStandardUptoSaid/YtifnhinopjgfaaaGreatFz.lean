/-
  What impl.Write writes are the fields that the specification's decoder asks for. Conditions: the profile is well formed, its numbers fit, its texts are together not too long; it has neither comments nor a type told first.
-/
import Derived.Test.YtifnhinopjgfaaaGreatFg
import Derived.Test.YtifnhinopjgfaaaGreatWr
namespace Go.Proofs.YtifnhinopjgfaaaGreat
open Go Go.Fw Go.Proofs Go.Proofs.Tryz
/-! ### fields -/
def WfF (f : Fld) : Prop := match f with
 | .num k n => k < 1048576 ∧ n < 18446744073709551616
 | .bys k b => k < 1048576 ∧ ∀ x ∈ b, x < 256
abbrev Wfs (gs : List Fld) : Prop := ∀ f ∈ gs, WfF f
theorem Wfs.app {a b : List Fld} (h : Wfs a) (k : Wfs b) : Wfs (a ++ b) := fun f hf => (List.mem_append.1 hf).elim (h f) (k f)
theorem Wfs.opt {k n : Nat} (hk : k < 1048576) (hn : n < 18446744073709551616) : Wfs (numOpt k n) := fun f hf => by
 unfold numOpt at hf
 split at hf
 ·cases hf
 ·simp at hf; subst hf; exact ⟨hk, hn⟩
theorem WfF.byte {f : Fld} (h : WfF f) : ∀ b ∈ encF f, b < 256 := by
 intro b hb
 cases f with
 | num k n =>
  simp only [encF, List.mem_append] at hb
  rcases hb with hb | hb <;> exact vint_byte _ b hb
 | bys k x =>
  simp only [encF, List.mem_append] at hb
  rcases hb with (hb | hb) | hb
  ·exact vint_byte _ b hb
  ·exact vint_byte _ b hb
  ·exact h.2 b hb
theorem Wfs.byte {gs : List Fld} (h : Wfs gs) : ∀ b ∈ encFs gs, b < 256 := fun b hb => by
 obtain ⟨f, hf, hb⟩ := List.mem_flatMap.1 hb
 exact (h f hf).byte b hb
theorem encF_two (f : Fld) : (fbytes f).length + 2 ≤ (encF f).length := by
 cases f with
 | num k n => have := vint_pos (8 * k); have := vint_pos n; simp only [encF, fbytes, List.length_append, List.length_nil]; omega
 | bys k b => have := vint_pos (8 * k + 2); have := vint_pos b.length; simp only [encF, fbytes, List.length_append]; omega
theorem encFs_mem {fs : List Fld} : ∀ {f : Fld}, f ∈ fs → (fbytes f).length ≤ (encFs fs).length := by
 induction fs with
 | nil => intro f h; cases h
 | cons a r ih =>
  intro f hf
  rw [encFs_cons, List.length_append]
  rcases List.mem_cons.1 hf with rfl | hf
  ·have := encF_two f; omega
  ·have := ih hf; omega
theorem encFs_two : ∀ fs : List Fld, 2 * fs.length ≤ (encFs fs).length
 | [] => by simp
 | a :: r => by have := encFs_two r; have := encF_two a; rw [encFs_cons, List.length_append, List.length_cons]; omega
theorem Wfs.ok {gs : List Fld} (h : Wfs gs) (hl : (encFs gs).length ≤ 2000000000) : (∀ f ∈ gs, FldOK f) ∧ gs.length ≤ 1000000000 := by
 refine ⟨fun f hf => ?_, by have := encFs_two gs; omega⟩
 have h1 := h f hf
 have h2 := encFs_mem hf
 cases f with
 | num k n => exact ⟨h1⟩
 | bys k b => exact ⟨h1.1, by simp only [fbytes] at h2; omega, h1.2⟩
/-! ### the number asked for -/
def oneF (k s : Nat) (fs : List Fld) : Nat := fs.foldl (fun a f => if fkey f = k then fnum f else a) s
theorem oneN_oneF (k : Nat) (fs : List Fld) : oneN k fs = oneF k 0 fs := rfl
theorem oneF_append (k s : Nat) (a b : List Fld) : oneF k s (a ++ b) = oneF k (oneF k s a) b := List.foldl_append ..
theorem oneF_ne {k s : Nat} : ∀ {fs : List Fld}, (∀ f ∈ fs, fkey f ≠ k) → oneF k s fs = s
 | [], _ => rfl
 | f :: r, h => by
  have h1 := h f (by simp)
  have := oneF_ne (k := k) (s := s) (fs := r) fun g hg => h g (by simp [hg])
  simp only [oneF, List.foldl_cons, if_neg h1] at this ⊢
  exact this
theorem oneF_opt (k j n s : Nat) : oneF k s (numOpt j n) = if j = k then (if n = 0 then s else n) else s := by
 unfold numOpt oneF
 by_cases hn : n = 0
 ·simp [hn]
 ·by_cases hj : j = k <;> simp [hn, hj, fkey, fnum]
theorem ite_zero_self (n : Nat) : (if n = 0 then 0 else n) = n := by split <;> omega
abbrev msF (k : Nat) (Ms : List (List Nat)) : List Fld := Ms.map (.bys k)
abbrev strF (k : Nat) (ss : List ByteArray) : List Fld := ss.map fun s => .bys k (sB s)
theorem key_ms {k : Nat} {Ms : List (List Nat)} : ∀ f ∈ msF k Ms, fkey f = k := fun f hf => by
 obtain ⟨M, -, rfl⟩ := List.mem_map.1 hf; rfl
theorem key_str {k : Nat} {ss : List ByteArray} : ∀ f ∈ strF k ss, fkey f = k := fun f hf => by
 obtain ⟨M, -, rfl⟩ := List.mem_map.1 hf; rfl
theorem key_opt {k n : Nat} : ∀ f ∈ numOpt k n, fkey f = k := fun f hf => by
 unfold numOpt at hf; split at hf
 ·cases hf
 ·simp at hf; subst hf; rfl
theorem key_num {k : Nat} {ns : List Nat} : ∀ f ∈ ns.map (Fld.num k), fkey f = k := fun f hf => by
 obtain ⟨M, -, rfl⟩ := List.mem_map.1 hf; rfl
theorem oneF_of {k j s : Nat} {fs : List Fld} (h : ∀ f ∈ fs, fkey f = j) (hj : j ≠ k) : oneF k s fs = s := oneF_ne fun f hf => by rw [h f hf]; exact hj
theorem flt_of {k j : Nat} {fs : List Fld} (h : ∀ f ∈ fs, fkey f = j) (hj : j ≠ k) : (fs.filter fun f => fkey f = k) = [] := List.filter_eq_nil_iff.2 fun f hf => by rw [h f hf]; simpa using hj
theorem flt_self {k : Nat} {fs : List Fld} (h : ∀ f ∈ fs, fkey f = k) : (fs.filter fun f => fkey f = k) = fs := List.filter_eq_self.2 fun f hf => by simp [h f hf]
theorem fb_ms (k : Nat) (Ms : List (List Nat)) : (msF k Ms).map fbytes = Ms := by simp [msF, Function.comp_def, fbytes]
theorem fb_str (k : Nat) (ss : List ByteArray) : (strF k ss).map fbytes = ss.map sB := by simp [strF, Function.comp_def, fbytes]
theorem enc_opt (k n : Nat) : encFs (numOpt k n) = optB k n := by
 unfold numOpt optB numB
 split <;> simp [encFs, encF]
theorem enc_ms (k : Nat) (Ms : List (List Nat)) : encFs (msF k Ms) = msB k Ms := List.flatMap_map ..
theorem enc_str (k : Nat) (ss : List ByteArray) : encFs (strF k ss) = strsB k ss := List.flatMap_map ..
theorem SubOK.of {k : Nat} {fs : List Fld} {gss : List (List Fld)} (hl : (encFs fs).length ≤ 2000000000) (he : (fs.filter fun f => fkey f = k).map fbytes = gss.map encFs) (hw : ∀ g ∈ gss, Wfs g) : SubOK k fs gss := ⟨he, fun g hg => by
 have h1 : encFs g ∈ (fs.filter fun f => fkey f = k).map fbytes := by rw [he]; exact List.mem_map_of_mem hg
 obtain ⟨f, hf, h2⟩ := List.mem_map.1 h1
 have h3 := encFs_mem (List.mem_filter.1 hf).1
 have := (hw g hg).ok (by rw [← h2]; omega)
 exact ⟨this.1, by omega⟩⟩
/-! ### lists of numbers -/
theorem Mny.app {k : Nat} {a b : List Fld} {na nb : List (List Nat)} (h : Mny k a na) (g : Mny k b nb) : Mny k (a ++ b) (na ++ nb) := by
 refine ⟨by simp [h.len, g.len], fun i f ns hf hn => ?_⟩
 by_cases hi : i < a.length
 ·rw [List.getElem?_append_left hi] at hf
  rw [List.getElem?_append_left (by rw [h.len]; exact hi)] at hn
  exact h.at_ i f ns hf hn
 ·rw [List.getElem?_append_right (by omega)] at hf
  rw [List.getElem?_append_right (by rw [h.len]; omega), h.len] at hn
  exact g.at_ _ f ns hf hn
theorem Mny.none {k : Nat} {a : List Fld} (h : ∀ f ∈ a, fkey f ≠ k) : Mny k a (a.map fun _ => []) := by
 refine ⟨by simp, fun i f ns hf hn => ?_⟩
 rw [if_neg (h f (List.mem_of_getElem? hf))]
 rw [List.getElem?_map, hf] at hn
 simpa using hn.symm
theorem Mny.nums (k : Nat) (ns : List Nat) : Mny k (ns.map (.num k)) (ns.map fun n => [n]) := by
 refine ⟨by simp, fun i f ms hf hn => ?_⟩
 rw [List.getElem?_map] at hf hn
 obtain ⟨n, h1, rfl⟩ := Option.map_eq_some_iff.1 hf
 rw [h1] at hn
 simp at hn
 simp [fkey, FV, hn]
theorem Mny.packed (k : Nat) (ns : List Nat) (h : ∀ n ∈ ns, n < 18446744073709551616) : Mny k [.bys k (ns.flatMap vint)] [ns] := by
 refine ⟨rfl, fun i f ms hf hn => ?_⟩
 cases i with
 | zero => simp at hf hn; subst hf; subst hn; simp [fkey, FV]; exact h
 | succ i => simp at hf
theorem flat_none (a : List Fld) : (a.map fun _ => ([] : List Nat)).flatten = [] := by
 induction a with
 | nil => rfl
 | cons x r ih => simp
theorem flat_single : ∀ ns : List Nat, (ns.map fun n => [n]).flatten = ns
 | [] => rfl
 | a :: r => by have := flat_single r; simp only [List.map_cons, List.flatten_cons, this]; rfl
def usF (k : Nat) (ns : List Nat) : List Fld := if 2 < ns.length then [.bys k (ns.flatMap vint)] else ns.map (.num k)
theorem enc_us (k : Nat) (ns : List Nat) : encFs (usF k ns) = usB k ns := by
 unfold usF usB
 split
 ·simp [encFs]
 ·rw [encFs, List.flatMap_map]; rfl
theorem key_us {k : Nat} {ns : List Nat} : ∀ f ∈ usF k ns, fkey f = k := fun f hf => by
 unfold usF at hf; split at hf
 ·simp at hf; subst hf; rfl
 ·exact key_num f hf
theorem Mny.us (k : Nat) (ns : List Nat) (h : ∀ n ∈ ns, n < 18446744073709551616) : ∃ nss, Mny k (usF k ns) nss ∧ nss.flatten = ns := by
 unfold usF
 split
 ·exact ⟨_, Mny.packed k ns h, by simp⟩
 ·exact ⟨_, Mny.nums k ns, flat_single ns⟩
/-! ### parts -/
theorem All2.choose {α : Type} {S : α → List Fld → Prop} {R : α → List Nat → Prop} : ∀ {xs : List α} {ys : List (List Nat)}, All2 xs ys R → (∀ M ∈ ys, M.length ≤ 2000000000) → (∀ a ∈ xs, ∀ M, M.length ≤ 2000000000 → R a M → ∃ gs, encFs gs = M ∧ Wfs gs ∧ S a gs) → ∃ gss : List (List Fld), gss.map encFs = ys ∧ (∀ g ∈ gss, Wfs g) ∧ All2 xs gss S
 | [], [], _, _, _ => ⟨[], rfl, by simp, rfl, by simp⟩
 | [], _ :: _, h, _, _ => by have := h.1; simp at this
 | _ :: _, [], h, _, _ => by have := h.1; simp at this
 | a :: xs, M :: ys, h, hb, hp => by
  obtain ⟨gss, h1, h2, h3⟩ := All2.choose (S := S) (R := R) (xs := xs) (ys := ys) ⟨by have := h.1; simpa using this, fun i a' M' ha hM => h.2 (i + 1) a' M' (by simpa using ha) (by simpa using hM)⟩ (fun M hM => hb M (by simp [hM])) fun a' ha => hp a' (by simp [ha])
  obtain ⟨g, h4, h5, h6⟩ := hp a (by simp) M (hb M (by simp)) (h.2 0 a M rfl rfl)
  refine ⟨g :: gss, by simp [h1, h4], fun g' hg => by
   rcases List.mem_cons.1 hg with rfl | hg
   ·exact h5
   ·exact h2 g' hg, by simp [h3.1], fun i a' g' ha hg => ?_⟩
  cases i with
  | zero => simp at ha hg; subst ha; subst hg; exact h6
  | succ i => exact h3.2 i a' g' (by simpa using ha) (by simpa using hg)
theorem All2.map {α β : Type} {f : α → β} {R : α → β → Prop} {xs : List α} (h : ∀ a ∈ xs, R a (f a)) : All2 xs (xs.map f) R := ⟨by simp, fun i a b ha hb => by
 rw [List.getElem?_map, ha] at hb
 simp at hb; subst hb
 exact h a (List.mem_of_getElem? ha)⟩
theorem u64_nat {k : Nat} (h : k < 18446744073709551616) : u64 (k : Int) = k := by
 have := u64_cast (k : Int)
 rw [wrapU h] at this
 omega
theorem At.u64 {T : List ByteArray} {n : Int} {s : ByteArray} (h : At T n s) (hl : T.length ≤ 100000000) : T[u64 n]? = some s := by
 obtain ⟨k, rfl, hk⟩ := h
 have := (List.getElem?_eq_some_iff.1 hk).1
 rw [u64_nat (by omega)]; exact hk
theorem wrap_u64 {z : Int} (h : IntKind.i64.wrap z = z) : IntKind.i64.wrap ((Go.Proofs.YtifnhinopjgfaaaGreat.u64 z : Nat) : Int) = z := by
 rw [u64_cast]
 simp [IntKind.wrap, IntKind.bits, IntKind.signed] at h ⊢
 omega
theorem opt_len (k n : Nat) : (numOpt k n).length ≤ 1 := by unfold numOpt; split <;> simp
def tyF (n m : Int) : List Fld := numOpt 1 (Go.Proofs.YtifnhinopjgfaaaGreat.u64 n) ++ numOpt 2 (Go.Proofs.YtifnhinopjgfaaaGreat.u64 m)
theorem tyF_enc (n m : Int) : encFs (tyF n m) = vtB n m := by simp [tyF, vtB, encFs_append, enc_opt]
theorem tyF_wf (n m : Int) : Wfs (tyF n m) := (Wfs.opt (by omega) (u64_lt _)).app (Wfs.opt (by omega) (u64_lt _))
theorem tyF_ok {T : List ByteArray} {t : PType} {n m : Int} (hl : T.length ≤ 100000000) (h1 : At T n t.ty) (h2 : At T m t.unit) : TyM T t (tyF n m) := by
 refine ⟨?_, ?_, ?_⟩
 ·rw [oneN_oneF]; unfold tyF; simp only [oneF_append, oneF_opt, ite_zero_self, ↓reduceIte, Nat.reduceEqDiff]; exact h1.u64 hl
 ·rw [oneN_oneF]; unfold tyF; simp only [oneF_append, oneF_opt, ite_zero_self, ↓reduceIte, Nat.reduceEqDiff]; exact h2.u64 hl
 ·have := opt_len 1 (Go.Proofs.YtifnhinopjgfaaaGreat.u64 n); have := opt_len 2 (Go.Proofs.YtifnhinopjgfaaaGreat.u64 m); simp only [tyF, List.length_append]; omega
theorem MT.go {T : List ByteArray} {t : PType} {M : List Nat} (hl : T.length ≤ 100000000) (h : MT T t M) : ∃ gs, encFs gs = M ∧ Wfs gs ∧ TyM T t gs := by
 obtain ⟨n, m, rfl, h1, h2⟩ := h
 exact ⟨tyF n m, tyF_enc n m, tyF_wf n m, tyF_ok hl h1 h2⟩
theorem bnat_lt64 (b : Bool) : bnat b < 18446744073709551616 := by cases b <;> simp [bnat]
theorem bnat_ne (b : Bool) : decide (((bnat b : Nat) : Int) ≠ 0) = b := by cases b <;> simp [bnat]
theorem MM.go {T : List ByteArray} {m : PMapping} {M : List Nat} (hl : T.length ≤ 100000000) (hr : IntKind.u64.wrap m.id = m.id ∧ IntKind.u64.wrap m.start = m.start ∧ IntKind.u64.wrap m.limit = m.limit ∧ IntKind.u64.wrap m.offset = m.offset) (h : MM T m M) : ∃ gs, encFs gs = M ∧ Wfs gs ∧ MpM T m gs := by
 obtain ⟨n, k, rfl, h1, h2⟩ := h
 obtain ⟨r1, r2, r3, r4⟩ := hr
 have r1 := u64_range r1
 have r2 := u64_range r2
 have r3 := u64_range r3
 have r4 := u64_range r4
 refine ⟨numOpt 1 m.id.toNat ++ (numOpt 2 m.start.toNat ++ (numOpt 3 m.limit.toNat ++ (numOpt 4 m.offset.toNat ++ (numOpt 5 (Go.Proofs.YtifnhinopjgfaaaGreat.u64 n) ++ (numOpt 6 (Go.Proofs.YtifnhinopjgfaaaGreat.u64 k) ++ (numOpt 7 (bnat m.fu) ++ (numOpt 8 (bnat m.fi) ++ (numOpt 9 (bnat m.li) ++ numOpt 10 (bnat m.inl))))))))), by simp [mpB, encFs_append, enc_opt],
  (Wfs.opt (by omega) (by omega)).app ((Wfs.opt (by omega) (by omega)).app ((Wfs.opt (by omega) (by omega)).app ((Wfs.opt (by omega) (by omega)).app ((Wfs.opt (by omega) (u64_lt _)).app ((Wfs.opt (by omega) (u64_lt _)).app ((Wfs.opt (by omega) (bnat_lt64 _)).app ((Wfs.opt (by omega) (bnat_lt64 _)).app ((Wfs.opt (by omega) (bnat_lt64 _)).app (Wfs.opt (by omega) (bnat_lt64 _)))))))))), ?_⟩
 constructor
 ·rw [oneN_oneF]; simp only [oneF_append, oneF_opt, ite_zero_self, ↓reduceIte, Nat.reduceEqDiff]; omega
 ·rw [oneN_oneF]; simp only [oneF_append, oneF_opt, ite_zero_self, ↓reduceIte, Nat.reduceEqDiff]; omega
 ·rw [oneN_oneF]; simp only [oneF_append, oneF_opt, ite_zero_self, ↓reduceIte, Nat.reduceEqDiff]; omega
 ·rw [oneN_oneF]; simp only [oneF_append, oneF_opt, ite_zero_self, ↓reduceIte, Nat.reduceEqDiff]; omega
 ·rw [oneN_oneF]; simp only [oneF_append, oneF_opt, ite_zero_self, ↓reduceIte, Nat.reduceEqDiff]; exact h1.u64 hl
 ·rw [oneN_oneF]; simp only [oneF_append, oneF_opt, ite_zero_self, ↓reduceIte, Nat.reduceEqDiff]; exact h2.u64 hl
 ·rw [oneN_oneF]; simp only [oneF_append, oneF_opt, ite_zero_self, ↓reduceIte, Nat.reduceEqDiff]; exact bnat_ne m.fu
 ·rw [oneN_oneF]; simp only [oneF_append, oneF_opt, ite_zero_self, ↓reduceIte, Nat.reduceEqDiff]; exact bnat_ne m.fi
 ·rw [oneN_oneF]; simp only [oneF_append, oneF_opt, ite_zero_self, ↓reduceIte, Nat.reduceEqDiff]; exact bnat_ne m.li
 ·rw [oneN_oneF]; simp only [oneF_append, oneF_opt, ite_zero_self, ↓reduceIte, Nat.reduceEqDiff]; exact bnat_ne m.inl
 ·have a1 := fun k n => opt_len k n
  simp only [List.length_append]
  have := a1 1 m.id.toNat; have := a1 2 m.start.toNat; have := a1 3 m.limit.toNat; have := a1 4 m.offset.toNat; have := a1 5 (Go.Proofs.YtifnhinopjgfaaaGreat.u64 n); have := a1 6 (Go.Proofs.YtifnhinopjgfaaaGreat.u64 k); have := a1 7 (bnat m.fu); have := a1 8 (bnat m.fi); have := a1 9 (bnat m.li); have := a1 10 (bnat m.inl)
  omega
theorem MF.go {T : List ByteArray} {f : PFunc} {M : List Nat} (hl : T.length ≤ 100000000) (hr : IntKind.u64.wrap f.id = f.id ∧ IntKind.i64.wrap f.start = f.start) (h : MF T f M) : ∃ gs, encFs gs = M ∧ Wfs gs ∧ FnM T f gs := by
 obtain ⟨n, k, i, rfl, h1, h2, h3⟩ := h
 have r1 := u64_range hr.1
 refine ⟨numOpt 1 f.id.toNat ++ (numOpt 2 (Go.Proofs.YtifnhinopjgfaaaGreat.u64 n) ++ (numOpt 3 (Go.Proofs.YtifnhinopjgfaaaGreat.u64 k) ++ (numOpt 4 (Go.Proofs.YtifnhinopjgfaaaGreat.u64 i) ++ numOpt 5 (Go.Proofs.YtifnhinopjgfaaaGreat.u64 f.start)))), by simp [fnB, encFs_append, enc_opt],
  (Wfs.opt (by omega) (by omega)).app ((Wfs.opt (by omega) (u64_lt _)).app ((Wfs.opt (by omega) (u64_lt _)).app ((Wfs.opt (by omega) (u64_lt _)).app (Wfs.opt (by omega) (u64_lt _))))), ?_⟩
 constructor
 ·rw [oneN_oneF]; simp only [oneF_append, oneF_opt, ite_zero_self, ↓reduceIte, Nat.reduceEqDiff]; omega
 ·rw [oneN_oneF]; simp only [oneF_append, oneF_opt, ite_zero_self, ↓reduceIte, Nat.reduceEqDiff]; exact h1.u64 hl
 ·rw [oneN_oneF]; simp only [oneF_append, oneF_opt, ite_zero_self, ↓reduceIte, Nat.reduceEqDiff]; exact h2.u64 hl
 ·rw [oneN_oneF]; simp only [oneF_append, oneF_opt, ite_zero_self, ↓reduceIte, Nat.reduceEqDiff]; exact h3.u64 hl
 ·rw [oneN_oneF]; simp only [oneF_append, oneF_opt, ite_zero_self, ↓reduceIte, Nat.reduceEqDiff]; exact wrap_u64 hr.2
 ·simp only [List.length_append]
  have := opt_len 1 f.id.toNat; have := opt_len 2 (Go.Proofs.YtifnhinopjgfaaaGreat.u64 n); have := opt_len 3 (Go.Proofs.YtifnhinopjgfaaaGreat.u64 k); have := opt_len 4 (Go.Proofs.YtifnhinopjgfaaaGreat.u64 i); have := opt_len 5 (Go.Proofs.YtifnhinopjgfaaaGreat.u64 f.start)
  omega
theorem plc_of {ids : List Int} (h0 : 0 ∉ ids) (hn : ids.Nodup) (hr : ∀ i ∈ ids, IntKind.u64.wrap i = i) {z : Int} (h1 : -1 ≤ z) (h2 : z < ids.length) : Plc (ids.map Int.toNat) (idAt ids z).toNat z := by
 unfold idAt
 by_cases hz : 0 ≤ z
 ·rw [if_pos hz]
  have hk : z.toNat < ids.length := by omega
  rw [List.getD_eq_getElem?_getD, List.getElem?_eq_getElem hk, Option.getD_some]
  have hm : ids[z.toNat] ∈ ids := List.getElem_mem hk
  have hu := u64_range (hr _ hm)
  have hne : ids[z.toNat] ≠ 0 := fun e => h0 (e ▸ hm)
  right
  refine ⟨by omega, z.toNat, by omega, by rw [List.getElem?_map, List.getElem?_eq_getElem hk]; rfl, fun j hj => ?_⟩
  have hj' : j < ids.length := by omega
  rw [List.getElem?_map, List.getElem?_eq_getElem hj']
  intro e
  simp at e
  have hu2 := u64_range (hr _ (List.getElem_mem hj'))
  have : ids[j] = ids[z.toNat] := by omega
  have := (List.getElem_inj hn).1 this
  omega
 ·rw [if_neg hz]
  left
  exact ⟨rfl, by omega⟩
theorem ML.go {x : PProf} {l : PLoc} {M : List Nat} (hx : WellP x) (hr : Rng x) (hlx : l ∈ x.locs) (hb : M.length ≤ 2000000000) (h : ML x l M) : ∃ gs, encFs gs = M ∧ Wfs gs ∧ LcM x l gs := by
 unfold ML at h
 obtain ⟨r1, r2, r3⟩ := hr.locs l hlx
 have r1 := u64_range r1
 have r2 := u64_range r2
 have rm := hr.mid l.mapping
 obtain ⟨⟨hm1, hm2⟩, hll, hln⟩ := hx.tab.locs l hlx
 have hf : ∀ n : PLine, (fnid x n.fn).toNat < 18446744073709551616 := fun n => by have := hr.fnid n.fn; omega
 obtain ⟨g, hg⟩ : ∃ g, g = l.lines.map fun n => numOpt 1 (fnid x n.fn).toNat ++ numOpt 2 (Go.Proofs.YtifnhinopjgfaaaGreat.u64 n.line) := ⟨_, rfl⟩
 have hge : g.map encFs = l.lines.map fun n => lnB (fnid x n.fn).toNat n.line := by rw [hg]; simp [Function.comp_def, encFs_append, enc_opt, lnB]
 have hgw : ∀ a ∈ g, Wfs a := fun a ha => by
  rw [hg] at ha
  obtain ⟨n, -, rfl⟩ := List.mem_map.1 ha
  exact (Wfs.opt (by omega) (hf n)).app (Wfs.opt (by omega) (u64_lt _))
 obtain ⟨gs, hgs⟩ : ∃ gs, gs = numOpt 1 l.id.toNat ++ (numOpt 2 (mid x l.mapping).toNat ++ (numOpt 3 l.addr.toNat ++ msF 4 (g.map encFs))) := ⟨_, rfl⟩
 have henc : encFs gs = M := by rw [h, hgs]; simp only [encFs_append, enc_opt, enc_ms, hge]
 have hwf : Wfs gs := by
  rw [hgs]
  refine (Wfs.opt (by omega) (by omega)).app ((Wfs.opt (by omega) (by omega)).app ((Wfs.opt (by omega) (by omega)).app fun f hf' => ?_))
  obtain ⟨m, hm, rfl⟩ := List.mem_map.1 hf'
  obtain ⟨a, ha, rfl⟩ := List.mem_map.1 hm
  exact ⟨by omega, (hgw a ha).byte⟩
 have hok := hwf.ok (by rw [henc]; exact hb)
 have hk4 : ∀ f ∈ msF 4 (g.map encFs), fkey f = 4 := key_ms
 refine ⟨gs, henc, hwf, ?_⟩
 constructor
 ·rw [oneN_oneF, hgs]; simp only [oneF_append]; rw [oneF_of hk4 (by decide)]; simp only [oneF_append, oneF_opt, ite_zero_self, ↓reduceIte, Nat.reduceEqDiff]; omega
 ·rw [oneN_oneF, hgs]; simp only [oneF_append]; rw [oneF_of hk4 (by decide)]; simp only [oneF_append, oneF_opt, ite_zero_self, ↓reduceIte, Nat.reduceEqDiff]
  have := plc_of hx.tab.m.1 hx.tab.m.2.1 (fun i hi => by obtain ⟨m, hm, rfl⟩ := List.mem_map.1 hi; exact (hr.maps m hm).1) hm1 (by simpa using hm2)
  simpa [mids, Function.comp_def] using this
 ·rw [oneN_oneF, hgs]; simp only [oneF_append]; rw [oneF_of hk4 (by decide)]; simp only [oneF_append, oneF_opt, ite_zero_self, ↓reduceIte, Nat.reduceEqDiff]; omega
 ·refine ⟨g, SubOK.of (by rw [henc]; exact hb) ?_ hgw, ?_⟩
  ·rw [hgs]; simp only [List.filter_append]
   rw [flt_of key_opt (by decide), flt_of key_opt (by decide), flt_of key_opt (by decide), flt_self hk4]
   simp only [List.nil_append, fb_ms]
  ·rw [hg]
   refine All2.map fun n hn => ⟨?_, ?_, ?_⟩
   ·rw [oneN_oneF]; simp only [oneF_append, oneF_opt, ite_zero_self, ↓reduceIte, Nat.reduceEqDiff]
    have := plc_of hx.tab.f.1 hx.tab.f.2.1 (fun i hi => by obtain ⟨m, hm, rfl⟩ := List.mem_map.1 hi; exact (hr.funs m hm).1) (hln n hn).1 (by simpa using (hln n hn).2)
    simpa [fids, Function.comp_def] using this
   ·rw [oneN_oneF]; simp only [oneF_append, oneF_opt, ite_zero_self, ↓reduceIte, Nat.reduceEqDiff]; exact wrap_u64 (r3 n hn)
   ·have := opt_len 1 (fnid x n.fn).toNat; have := opt_len 2 (Go.Proofs.YtifnhinopjgfaaaGreat.u64 n.line); simp only [List.length_append]; omega
 ·omega
 ·exact hok.2
end Go.Proofs.YtifnhinopjgfaaaGreat
