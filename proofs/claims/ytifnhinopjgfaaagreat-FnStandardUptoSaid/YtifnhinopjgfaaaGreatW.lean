/-
  The wire format in plain Lean: numbers, fields, messages as lists of bytes; what is written can be read. Conditions: none.
-/
import Derived.Test.YtifnhinopjgfaaaGreatFwO
namespace Go.Fw
open Go
/-- a number of a message -/
def vint (n : Nat) : List Nat := if h : n < 128 then [n] else (n % 128 + 128) :: vint (n / 128)
termination_by n
decreasing_by omega
theorem vint_lt {n : Nat} (h : n < 128) : vint n = [n] := by rw [vint, dif_pos h]
theorem vint_ge {n : Nat} (h : ¬ n < 128) : vint n = (n % 128 + 128) :: vint (n / 128) := by rw [vint, dif_neg h]
theorem vint_byte : ∀ (n : Nat), ∀ b ∈ vint n, b < 256 := fun n => by
 induction n using Nat.strongRecOn with
 | _ n ih =>
  intro b hb
  by_cases h : n < 128
  ·rw [vint_lt h] at hb; simp at hb; omega
  ·rw [vint_ge h] at hb
   rcases List.mem_cons.1 hb with rfl | hb
   ·omega
   ·exact ih (n / 128) (by omega) b hb
theorem vint_len_aux : ∀ (k n : Nat), n < 128 ^ (k + 1) → (vint n).length ≤ k + 1
 | 0, n, h => by rw [vint_lt (by simpa using h)]; simp
 | k + 1, n, h => by
  by_cases hn : n < 128
  ·rw [vint_lt hn]; simp
  ·rw [vint_ge hn]
   have := vint_len_aux k (n / 128) (by rw [Nat.div_lt_iff_lt_mul (by omega)]; rw [Nat.pow_succ] at h; exact h)
   simp; omega
theorem vint_len {n : Nat} (h : n < 18446744073709551616) : (vint n).length ≤ 10 := vint_len_aux 9 n (by omega)
theorem vint_pos (n : Nat) : 0 < (vint n).length := by
 by_cases h : n < 128
 ·rw [vint_lt h]; simp
 ·rw [vint_ge h]; simp
/-- a field: its number, and a number or bytes -/
inductive Fld where
 | num (k n : Nat)
 | bys (k : Nat) (b : List Nat)
def encF : Fld → List Nat
 | .num k n => vint (8 * k) ++ vint n
 | .bys k b => vint (8 * k + 2) ++ vint b.length ++ b
def encFs (fs : List Fld) : List Nat := fs.flatMap encF
/-- a field's place among its message's fields is not asked for -/
def numOpt (k n : Nat) : List Fld := if n = 0 then [] else [.num k n]
structure FldOK (f : Fld) : Prop where
 ok : match f with
  | .num k n => k < 1048576 ∧ n < 18446744073709551616
  | .bys k b => k < 1048576 ∧ b.length < 18446744073709551616 ∧ ∀ x ∈ b, x < 256
theorem encFs_append (a b : List Fld) : encFs (a ++ b) = encFs a ++ encFs b := List.flatMap_append ..
theorem encFs_cons (a : Fld) (b : List Fld) : encFs (a :: b) = encF a ++ encFs b := List.flatMap_cons ..
/-- a byte in memory -/
abbrev bv (n : Nat) : Value := .int .u8 (n : Int)
/-- a text's bytes -/
def sB (s : ByteArray) : List Nat := s.data.toList.map (·.toNat)
theorem sB_len (s : ByteArray) : (sB s).length = s.size := by simp [sB]
theorem sB_byte (s : ByteArray) : ∀ x ∈ sB s, x < 256 := by
 intro x hx
 obtain ⟨c, -, rfl⟩ := List.mem_map.1 hx
 exact c.toNat_lt
/-- putting what was written last in front of what was written before -/
theorem setL_mid : ∀ (ys xs zs rest : List Value), ys.length = zs.length → setL (xs ++ zs ++ rest) xs.length ys = xs ++ ys ++ rest
 | [], xs, zs, rest, h => by
  have : zs = [] := List.eq_nil_of_length_eq_zero h.symm
  subst this; simp [setL]
 | y :: ys, xs, zs, rest, h => by
  obtain ⟨z, zs, rfl⟩ : ∃ z r, zs = z :: r := by
   cases zs with
   | nil => simp at h
   | cons z r => exact ⟨z, r, rfl⟩
  simp only [setL]
  have h1 : (xs ++ z :: zs ++ rest).set xs.length y = (xs ++ [y]) ++ zs ++ rest := by
   rw [List.append_assoc, List.set_append_right _ _ (Nat.le_refl _)]; simp
  rw [h1, show xs.length + 1 = (xs ++ [y]).length by simp, setL_mid ys (xs ++ [y]) zs rest (by simpa using h)]
  simp
end Go.Fw
