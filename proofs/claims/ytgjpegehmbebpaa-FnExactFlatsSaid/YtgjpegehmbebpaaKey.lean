/-
  The key types of the graph's maps. Conditions: pointers of keys point to rows.
-/
import Derived.Test.YtgjpegehmbebpaaGr
import Derived.Laws.StructEq
namespace Go.Proofs.Ytgjpegehmbebpaa
open Go Go.Fw Go.Proofs
theorem toList_inj (x y : ByteArray) : x.toList = y.toList ↔ x = y := by
  have := ba_eq x y
  rw [Bool.eq_iff_iff] at this
  simpa using this
abbrev tNI : Nat := 73
def encNI (i : NI) : Value := .agg #[.string i.name, .int .u64 i.addr, .int .i64 i.start, .int .i64 i.line]
theorem eqNI (w : World) (i j : NI) : (Op.equal tNI (encNI i) (encNI j)).run Try.prog w = .ok (decide (i = j)) w := by
  have h1 : Try.prog.underlying tNI = some (.struct (Try.prog.fieldsOf tNI)) := by simp [Program.fieldsOf, Try.underlying73]
  have h2 := run_equalIn_agg (P := Try.prog) w 9999 tNI #[.string i.name, .int .u64 i.addr, .int .i64 i.start, .int .i64 i.line] #[.string j.name, .int .u64 j.addr, .int .i64 j.start, .int .i64 j.line] h1 Try.stoodInHeld73
  have h3 : Op.equal tNI (encNI i) (encNI j) = Op.equalIn (9999 + 1) tNI (encNI i) (encNI j) := rfl
  rw [h3, encNI, encNI, h2]
  have hs := fun (d : Nat) (a b : ByteArray) (w : World) => run_equalIn_string (P := Try.prog) w d 9 a b Try.underlying9
  have hu := fun (d : Nat) (a b : Int) (w : World) => run_equalIn_int (P := Try.prog) w d 53 .u64 .u64 a b Try.underlying53
  have hi := fun (d : Nat) (a b : Int) (w : World) => run_equalIn_int (P := Try.prog) w d 3 .i64 .i64 a b Try.underlying3
  have hs := fun (a b : ByteArray) (w : World) => hs 9998 a b w
  have hu := fun (a b : Int) (w : World) => hu 9998 a b w
  have hi := fun (a b : Int) (w : World) => hi 9998 a b w
  simp only [Nat.reduceAdd] at hs hu hi
  simp [Program.fieldsOf, Try.underlying73, Op.eqFields, part, Try.isAgg9, Try.isAgg53, Try.isAgg3, hs, hu, hi]
  cases i; cases j
  simp only [NI.mk.injEq, toList_inj]
  repeat' split
  all_goals simp_all
theorem keyNI : KeyT Try.prog tNI encNI (fun _ _ => True) := by
  refine KeyT.of_equal ⟨_, Try.runUnderlying73, fun v u => by cases v <;> cases u <;> rfl⟩ (fun w em k => ?_) (fun w k k' _ _ => eqNI w k k') (fun k => ?_)
  · have h1 : ∀ (n : Nat) (s : ByteArray) (w : World), (Instr.checkKey em (n + 1) 9 (.string s)).run Try.prog w = .ok () w := fun n s w => check_string Try.runUnderlying9 n em s w
    have h2 : ∀ (n : Nat) (z : Int) (w : World), (Instr.checkKey em (n + 1) 53 (.int .u64 z)).run Try.prog w = .ok () w := fun n s w => check_int Try.runUnderlying53 n em s w
    have h3 : ∀ (n : Nat) (z : Int) (w : World), (Instr.checkKey em (n + 1) 3 (.int .i64 z)).run Try.prog w = .ok () w := fun n s w => check_int Try.runUnderlying3 n em s w
    have h1 := h1 9998; have h2 := h2 9998; have h3 := h3 9998
    simp only [Nat.reduceAdd] at h1 h2 h3
    show (Instr.checkKey em (9999 + 1) tNI (encNI k)).run Try.prog w = _
    rw [Instr.checkKey]
    simp [encNI, Try.runUnderlying73, part, Try.isAgg9, Try.isAgg53, Try.isAgg3, h1, h2, h3, ← Array.forIn_toList]
  · simp [encNI, Instr.sameBits, ba_beq]

/-! ### nodes of a result -/
abbrev tFlat : Nat := 55
structure FK where (name : ByteArray) (addr line start value : Int)
deriving DecidableEq
def cFK (i : FK) : List Value := [.string i.name, .int .u64 i.addr, .int .i64 i.line, .int .i64 i.start, .int .i64 i.value]
def encFK (i : FK) : Value := .agg #[.string i.name, .int .u64 i.addr, .int .i64 i.line, .int .i64 i.start, .int .i64 i.value]
theorem eqFK (w : World) (i j : FK) : (Op.equalIn 10000 tFlat (encFK i) (encFK j)).run Try.prog w = .ok (decide (i = j)) w := by
  have h1 : Try.prog.underlying tFlat = some (.struct (Try.prog.fieldsOf tFlat)) := by simp [Program.fieldsOf, Try.underlying55]
  have h2 := run_equalIn_agg (P := Try.prog) w 9999 tFlat #[.string i.name, .int .u64 i.addr, .int .i64 i.line, .int .i64 i.start, .int .i64 i.value] #[.string j.name, .int .u64 j.addr, .int .i64 j.line, .int .i64 j.start, .int .i64 j.value] h1 Try.stoodInHeld55
  show (Op.equalIn (9999 + 1) tFlat (encFK i) (encFK j)).run Try.prog w = _
  rw [encFK, encFK, h2]
  have hs := fun (d : Nat) (a b : ByteArray) (w : World) => run_equalIn_string (P := Try.prog) w d 9 a b Try.underlying9
  have hu := fun (d : Nat) (a b : Int) (w : World) => run_equalIn_int (P := Try.prog) w d 53 .u64 .u64 a b Try.underlying53
  have hi := fun (d : Nat) (a b : Int) (w : World) => run_equalIn_int (P := Try.prog) w d 3 .i64 .i64 a b Try.underlying3
  have hl := fun (d : Nat) (a b : Int) (w : World) => run_equalIn_int (P := Try.prog) w d 2 .i64 .i64 a b Try.underlying2
  have hs := fun (a b : ByteArray) (w : World) => hs 9998 a b w
  have hu := fun (a b : Int) (w : World) => hu 9998 a b w
  have hi := fun (a b : Int) (w : World) => hi 9998 a b w
  have hl := fun (a b : Int) (w : World) => hl 9998 a b w
  simp only [Nat.reduceAdd] at hs hu hi hl
  simp [Program.fieldsOf, Try.underlying55, Op.eqFields, part, Try.isAgg9, Try.isAgg53, Try.isAgg3, Try.isAgg2, hs, hu, hi, hl]
  cases i; cases j
  simp only [FK.mk.injEq, toList_inj]
  repeat' split
  all_goals simp_all
theorem keyFK : KeyT Try.prog tFlat encFK (fun _ _ => True) := by
  refine KeyT.of_equal ⟨_, Try.runUnderlying55, fun v u => by cases v <;> cases u <;> rfl⟩ (fun w em k => ?_) (fun w k k' _ _ => eqFK w k k') (fun k => ?_)
  · have h1 := fun (s : ByteArray) (w : World) => check_string (P := Try.prog) Try.runUnderlying9 9998 em s w
    have h2 := fun (z : Int) (w : World) => check_int (P := Try.prog) (kd := .u64) Try.runUnderlying53 9998 em z w
    have h3 := fun (z : Int) (w : World) => check_int (P := Try.prog) (kd := .i64) Try.runUnderlying3 9998 em z w
    have h4 := fun (z : Int) (w : World) => check_int (P := Try.prog) (kd := .i64) Try.runUnderlying2 9998 em z w
    simp only [Nat.reduceAdd] at h1 h2 h3 h4
    show (Instr.checkKey em (9999 + 1) tFlat (encFK k)).run Try.prog w = _
    rw [Instr.checkKey]
    simp [encFK, Try.runUnderlying55, part, Try.isAgg9, Try.isAgg53, Try.isAgg3, Try.isAgg2, h1, h2, h3, h4, ← Array.forIn_toList]
  · simp [encFK, Instr.sameBits, ba_beq]

/-! ### pointers to nodes, and pairs of them -/
theorem eqPN (d : Nat) (w : World) (a b : Option Nat) (ha : ∀ x, a = some x → IsNode w x) (hb : ∀ x, b = some x → IsNode w x) :
    (Op.equalIn (d + 1) pNode (.pointer (a.map fun x => ⟨x, 0, none⟩)) (.pointer (b.map fun x => ⟨x, 0, none⟩))).run Try.prog w = .ok (decide (a = b)) w := by
  have hp := Try.underlying71
  have hi := nf77
  have hs := ns77
  cases a with
  | none => cases b <;> simp [Op.equalIn, run_underlying hp]
  | some a =>
    cases b with
    | none => simp [Op.equalIn, run_underlying hp]
    | some b =>
      obtain ⟨ca, h1⟩ := ha a rfl
      obtain ⟨cb, h2⟩ := hb b rfl
      by_cases h : a = b
      · subst h
        simp [Op.equalIn, run_underlying hp, sizeOf, typeInfo, hi, run_sameAddr_same]
      · have hne : (⟨a, 0, none⟩ : Addr) ≠ ⟨b, 0, none⟩ := fun he => h (by injection he)
        simp [Op.equalIn, run_underlying hp, sizeOf, typeInfo, hi, hs, run_sameAddr_other w hne h1 h2, h]
theorem keyPN : KeyT Try.prog pNode ptr (fun w b => IsNode w b) := by
  refine KeyT.of_equal ⟨_, Try.runUnderlying71, fun v u => by cases v <;> cases u <;> rfl⟩ (fun w em k => ?_) (fun w k k' h h' => ?_) (fun k => ?_)
  · show (Instr.checkKey em (9999 + 1) pNode (ptr k)).run Try.prog w = _
    rw [Instr.checkKey]
    simp [Try.runUnderlying71]
  · have := eqPN 9999 w (some k) (some k') (fun x hx => by cases hx; exact h) (fun x hx => by cases hx; exact h')
    show (Op.equalIn (9999 + 1) pNode (ptr k) (ptr k')).run Try.prog w = _
    simpa using this
  · simp [Instr.sameBits]
abbrev tPair : Nat := 128
def encPP (p : Nat × Option Nat) : Value := .agg #[ptr p.1, .pointer (p.2.map fun x => ⟨x, 0, none⟩)]
theorem keyPP : KeyT Try.prog tPair encPP (fun w p => IsNode w p.1 ∧ ∀ x, p.2 = some x → IsNode w x) := by
  refine KeyT.of_equal ⟨_, Try.runUnderlying128, fun v u => by cases v <;> cases u <;> rfl⟩ (fun w em k => ?_) (fun w k k' h h' => ?_) (fun k => ?_)
  · show (Instr.checkKey em (9999 + 1) tPair (encPP k)).run Try.prog w = _
    have h1 : ∀ (p : Option Addr) (w : World), (Instr.checkKey em 9999 pNode (.pointer p)).run Try.prog w = .ok () w := fun p w => by
      show (Instr.checkKey em (9998 + 1) pNode (.pointer p)).run Try.prog w = _
      rw [Instr.checkKey]
      simp [Try.runUnderlying71]
    rw [Instr.checkKey]
    simp [encPP, Try.runUnderlying128, part, Try.isAgg71, h1, ← Array.forIn_toList]
  · have h1 : Try.prog.underlying tPair = some (.struct (Try.prog.fieldsOf tPair)) := by simp [Program.fieldsOf, Try.underlying128]
    have h2 := run_equalIn_agg (P := Try.prog) w 9999 tPair #[ptr k.1, .pointer (k.2.map fun x => ⟨x, 0, none⟩)] #[ptr k'.1, .pointer (k'.2.map fun x => ⟨x, 0, none⟩)] h1 Try.stoodInHeld128
    have e1 := eqPN 9998 w (some k.1) (some k'.1) (fun x hx => by cases hx; exact h.1) (fun x hx => by cases hx; exact h'.1)
    have e2 := eqPN 9998 w k.2 k'.2 h.2 h'.2
    simp only [Nat.reduceAdd, Option.map_some] at e1 e2
    show (Op.equalIn (9999 + 1) tPair (encPP k) (encPP k')).run Try.prog w = _
    rw [encPP, encPP, h2]
    simp [Program.fieldsOf, Try.underlying128, Op.eqFields, part, Try.isAgg71, e1, e2]
    obtain ⟨a, b⟩ := k
    obtain ⟨a', b'⟩ := k'
    simp only [Prod.mk.injEq]
    repeat' split
    all_goals simp_all
  · simp [encPP, Instr.sameBits]
end Go.Proofs.Ytgjpegehmbebpaa
