/-
  The specification's Same says of two profiles that read alike that they are the same; Bare tells that there are neither comments nor a type that is told first. Conditions: the arguments are plain data in memory.
-/
import Derived.Test.YtifnhinopjgfaaaGreatDb
import Derived.Laws.StructEq
import Derived.KernelRfl
namespace Go.Fw
open Go
section
variable {P : Program} {n : Nat} {e : Env} {d ty : Nat} {pos : String} {af : Array Edge}
theorem r_neqA {t t' : Nat} {x y : Operand} {xs : Array Value} (he : ∀ w, (Op.equalIn 10000 t (.agg xs) (.agg xs)).run P w = .ok true w) (hm : P.eqGuardType P.depth t = false) (hx : ev e x = some (.agg xs)) (hy : ev e y = some (.agg xs)) {a : Act} {w : World} (ha : Sat n e a) :
  (execOp a.eval ⟨some d, .binOp .neq t x y t', ty, pos, af, none⟩).run P w = .ok (.value (.bool false)) w := by
 have h : (binOp .neq t (.agg xs) (.agg xs)).run P w = .ok (.bool false) w := by
  simp only [binOp]
  simp [Op.equal, Op.maxDepth, he w]
 simp only [execOp, ha.ev hx, ha.ev hy]
 simp [run_eqGuard_agg (hm := hm), h]
theorem r_eqlA {t t' : Nat} {x y : Operand} {xs : Array Value} (he : ∀ w, (Op.equalIn 10000 t (.agg xs) (.agg xs)).run P w = .ok true w) (hm : P.eqGuardType P.depth t = false) (hx : ev e x = some (.agg xs)) (hy : ev e y = some (.agg xs)) {a : Act} {w : World} (ha : Sat n e a) :
  (execOp a.eval ⟨some d, .binOp .eql t x y t', ty, pos, af, none⟩).run P w = .ok (.value (.bool true)) w := by
 have h : (binOp .eql t (.agg xs) (.agg xs)).run P w = .ok (.bool true) w := by
  simp only [binOp]
  simp [Op.equal, Op.maxDepth, he w]
 simp only [execOp, ha.ev hx, ha.ev hy]
 simp [run_eqGuard_agg (hm := hm), h]
end
end Go.Fw
namespace Go.Proofs.YtifnhinopjgfaaaGreat
open Go Go.Fw Go.Proofs Go.Proofs.Tryz

theorem egTy : Tryz.prog.eqGuardType Tryz.prog.depth tTy = false := by kernel_rfl
theorem shTy : Tryz.prog.stoodInHeld tTy = false := by kernel_rfl
theorem eqTy (a b : ByteArray) (w : World) : (Op.equalIn 10000 tTy (.agg #[.string a, .string b]) (.agg #[.string a, .string b])).run Tryz.prog w = .ok true w := by
 have h1 : Tryz.prog.underlying tTy = some (.struct (Tryz.prog.fieldsOf tTy)) := by simp [Program.fieldsOf, Tryz.underlying29]
 have h2 := run_equalIn_agg (P := Tryz.prog) w 9999 tTy #[.string a, .string b] #[.string a, .string b] h1 shTy
 simp only [Nat.reduceAdd] at h2
 rw [h2]
 have hs := fun (a : ByteArray) (w : World) => run_equalIn_string (P := Tryz.prog) w 9998 9 a a Tryz.underlying9
 simp only [Nat.reduceAdd] at hs
 simp [Program.fieldsOf, Tryz.underlying29, Op.eqFields, part, Tryz.isAgg9, hs]

theorem egMp : Tryz.prog.eqGuardType Tryz.prog.depth tMp = false := by kernel_rfl
theorem shMp : Tryz.prog.stoodInHeld tMp = false := by kernel_rfl
theorem eqMp (a b c d : Int) (e f : ByteArray) (g h i j : Bool) (w : World) : (Op.equalIn 10000 tMp (.agg #[.int .u64 a, .int .u64 b, .int .u64 c, .int .u64 d, .string e, .string f, .bool g, .bool h, .bool i, .bool j]) (.agg #[.int .u64 a, .int .u64 b, .int .u64 c, .int .u64 d, .string e, .string f, .bool g, .bool h, .bool i, .bool j])).run Tryz.prog w = .ok true w := by
 have h1 : Tryz.prog.underlying tMp = some (.struct (Tryz.prog.fieldsOf tMp)) := by simp [Program.fieldsOf, Tryz.underlying70]
 have h2 := run_equalIn_agg (P := Tryz.prog) w 9999 tMp #[.int .u64 a, .int .u64 b, .int .u64 c, .int .u64 d, .string e, .string f, .bool g, .bool h, .bool i, .bool j] #[.int .u64 a, .int .u64 b, .int .u64 c, .int .u64 d, .string e, .string f, .bool g, .bool h, .bool i, .bool j] h1 shMp
 simp only [Nat.reduceAdd] at h2
 rw [h2]
 have hs := fun (a : ByteArray) (w : World) => run_equalIn_string (P := Tryz.prog) w 9998 9 a a Tryz.underlying9
 have huint64 := fun (a : Int) (w : World) => run_equalIn_int (P := Tryz.prog) w 9998 59 .u64 .u64 a a Tryz.underlying59
 have hb := fun (a : Bool) (w : World) => run_equalIn_bool (P := Tryz.prog) (w := w) 9998 4 a a Tryz.underlying4
 simp only [Nat.reduceAdd] at hs huint64 hb
 simp [Program.fieldsOf, Tryz.underlying70, Op.eqFields, part, Tryz.isAgg9, Tryz.isAgg59, Tryz.isAgg4, hs, huint64, hb]

theorem egFn : Tryz.prog.eqGuardType Tryz.prog.depth tFn = false := by kernel_rfl
theorem shFn : Tryz.prog.stoodInHeld tFn = false := by kernel_rfl
theorem eqFn (a : Int) (b c d : ByteArray) (e : Int) (w : World) : (Op.equalIn 10000 tFn (.agg #[.int .u64 a, .string b, .string c, .string d, .int .i64 e]) (.agg #[.int .u64 a, .string b, .string c, .string d, .int .i64 e])).run Tryz.prog w = .ok true w := by
 have h1 : Tryz.prog.underlying tFn = some (.struct (Tryz.prog.fieldsOf tFn)) := by simp [Program.fieldsOf, Tryz.underlying72]
 have h2 := run_equalIn_agg (P := Tryz.prog) w 9999 tFn #[.int .u64 a, .string b, .string c, .string d, .int .i64 e] #[.int .u64 a, .string b, .string c, .string d, .int .i64 e] h1 shFn
 simp only [Nat.reduceAdd] at h2
 rw [h2]
 have hs := fun (a : ByteArray) (w : World) => run_equalIn_string (P := Tryz.prog) w 9998 9 a a Tryz.underlying9
 have huint64 := fun (a : Int) (w : World) => run_equalIn_int (P := Tryz.prog) w 9998 59 .u64 .u64 a a Tryz.underlying59
 have hint64 := fun (a : Int) (w : World) => run_equalIn_int (P := Tryz.prog) w 9998 2 .i64 .i64 a a Tryz.underlying2
 simp only [Nat.reduceAdd] at hs huint64 hint64
 simp [Program.fieldsOf, Tryz.underlying72, Op.eqFields, part, Tryz.isAgg9, Tryz.isAgg59, Tryz.isAgg2, hs, huint64, hint64]

theorem egLn : Tryz.prog.eqGuardType Tryz.prog.depth tLn = false := by kernel_rfl
theorem shLn : Tryz.prog.stoodInHeld tLn = false := by kernel_rfl
theorem eqLn (a b : Int) (w : World) : (Op.equalIn 10000 tLn (.agg #[.int .i64 a, .int .i64 b]) (.agg #[.int .i64 a, .int .i64 b])).run Tryz.prog w = .ok true w := by
 have h1 : Tryz.prog.underlying tLn = some (.struct (Tryz.prog.fieldsOf tLn)) := by simp [Program.fieldsOf, Tryz.underlying78]
 have h2 := run_equalIn_agg (P := Tryz.prog) w 9999 tLn #[.int .i64 a, .int .i64 b] #[.int .i64 a, .int .i64 b] h1 shLn
 simp only [Nat.reduceAdd] at h2
 rw [h2]
 have hint := fun (a : Int) (w : World) => run_equalIn_int (P := Tryz.prog) w 9998 3 .i64 .i64 a a Tryz.underlying3
 have hint64 := fun (a : Int) (w : World) => run_equalIn_int (P := Tryz.prog) w 9998 2 .i64 .i64 a a Tryz.underlying2
 simp only [Nat.reduceAdd] at hint hint64
 simp [Program.fieldsOf, Tryz.underlying78, Op.eqFields, part, Tryz.isAgg3, Tryz.isAgg2, hint, hint64]

theorem slTy_c (w : World) (v u : Value) (xs : List PType) (hv : Lay RType 2 w v xs) (hu : Lay RType 2 w u xs) : Calls Tryz.prog 29 #[v, u] w (Ret fun r w' => r = .bool true ∧ Fr 0 [] w w') := by
 obtain ⟨p, c, rfl, hl, hx⟩ := hv.open
 obtain ⟨q, c2, rfl, -, hy⟩ := hu.open
 refine startJ (args := [_, _]) [(0, _), (1, _)] 0 [] [] Tryz.func29 rfl Tryz.ntmps29 rfl rfl .nil ?_
 refine cj_seqF fun K1 hK1 => cj_reg (jA rfl rfl (j_nil (ej_then (hK1 _ _ _ (CJ.s [(0, _), (1, _)] ⟨rfl, rfl, trivial⟩ (cj_seqF fun K2 hK2 => cj_seqF fun K3 hK3 => cj_reg (jM rfl rfl (j_val rfl (fun _ _ h => r_len Tryz.runUnderlying22 rfl h) (jM rfl rfl (j_val rfl (fun _ _ h => r_len Tryz.runUnderlying22 rfl h) (j_val rfl (fun _ _ h => r_neq rfl rfl h) ?_)))))))))))
 refine j_eqv (u := .bool false) (congrArg Value.bool (by simp)) ?_
 refine j_nil (ej_then (hK3 _ _ _ (CJ.s [(0, _), (1, _), (10, _)] ⟨rfl, rfl, rfl, trivial⟩ ?_)))
 refine cj_if_f rfl ?_
 refine cj_skip (ej_then (hK2 _ _ _ (CJ.s [(0, _), (1, _)] ⟨rfl, rfl, trivial⟩ (cj_seqF fun K4 hK4 => cj_seqF fun K5 hK5 => cj_reg (jM rfl rfl (j_val rfl (fun _ _ h => r_len Tryz.runUnderlying22 rfl h) (jM rfl rfl (j_nil (ej_then (hK5 _ _ _ (CJ.s [(0, _), (1, _), (12, _), (13, _)] ⟨rfl, rfl, rfl, rfl, trivial⟩ (cj_block ?_))))))))))))
 -- LOOP 0 live [0, 1, 12, 13]
 refine cj_loop (σ := Nat) (fun k => [(0, .slice p xs.length c), (1, .slice q xs.length c2), (12, .int .i64 (xs.length : Nat)), (13, .int .i64 (k : Nat))]) (fun _ => []) (fun k _ => k ≤ xs.length) (fun k => xs.length - k) 0 ⟨rfl, rfl, rfl, rfl, trivial⟩ (fun w hH hf => ⟨.nil, Nat.zero_le _⟩) ?_
 rintro k w1 hk hf1 hH1 KL hKL
 refine C.begin _ [] hf1 .nil ?_
 refine CJ.s [(0, .slice p xs.length c), (1, .slice q xs.length c2), (12, .int .i64 (xs.length : Nat)), (13, .int .i64 (k : Nat))] ⟨rfl, rfl, rfl, rfl, trivial⟩ (cj_seqF fun K6 hK6 => cj_reg (j_val rfl (fun _ _ h => r_lss rfl rfl h) (j_nil (ej_then (hK6 _ _ _ (CJ.s [(0, _), (1, _), (12, _), (13, _), (14, _)] ⟨rfl, rfl, rfl, rfl, rfl, trivial⟩ (cj_seqF fun K7 hK7 => ?_)))))))
 refine cj_dec rfl (fun h14 => ?_) (fun h14 => ?_)
 ·have hk' : k < xs.length := by omega
  obtain ⟨b, o, cs, rfl, -, hR, hcell⟩ := hx k xs[k] (List.getElem?_eq_getElem hk')
  obtain ⟨b2, o2, cs2, rfl, -, hR2, hcell2⟩ := hy k xs[k] (List.getElem?_eq_getElem hk')
  unfold RType at hR hR2
  subst hR; subst hR2
  refine cj_skip (ej_then (hK7 _ _ _ (CJ.s [(0, _), (1, _), (12, _), (13, _)] ⟨rfl, rfl, rfl, rfl, trivial⟩ (cj_seqF fun K8 hK8 => cj_block (cj_seqF fun K9 hK9 => cj_reg (jM rfl rfl (jA rfl rfl (j_nil (ej_then (hK9 _ _ _ (CJ.s [(0, _), (1, _), (5, _), (12, _), (13, _)] ⟨rfl, rfl, rfl, rfl, rfl, trivial⟩ (cj_seqF fun K10 hK10 => ?_))))))))))))
  refine cj_drawI 9 [(0, true), (1, true), (2, true), (3, true), (4, true), (5, true), (6, true), (7, true), (8, true)] [] rfl (by kernel_rfl) (by kernel_rfl) ?_
  refine dj_val rfl rfl (sub_of [] rfl) (fun _ _ h => r_move rfl h) (dj_val rfl rfl (sub_of [] rfl) (fun _ _ h => r_move rfl h) (dj_val rfl rfl (sub_of [] rfl) (fun _ _ h => r_idx Tryz.runUnderlying22 Tryz.sizeOf29 rfl rfl (by omega) h) (dj_ld rfl rfl (sub_of [] rfl) (fun a w ha hS => r_loadA Tryz.isAgg29 Tryz.sizeOf29 rfl rfl (hcell w (hS.2.keepAll (.inr rfl))) ha) (dj_val rfl rfl (sub_of [] rfl) (fun _ _ h => r_move rfl h) (dj_val rfl rfl (sub_of [] rfl) (fun _ _ h => r_move rfl h) (dj_val rfl rfl (sub_of [] rfl) (fun _ _ h => r_idx Tryz.runUnderlying22 Tryz.sizeOf29 rfl rfl (by omega) h) (dj_ld rfl rfl (sub_of [] rfl) (fun a w ha hS => r_loadA Tryz.isAgg29 Tryz.sizeOf29 rfl rfl (hcell2 w (hS.2.keepAll (.inr rfl))) ha) (dj_val rfl rfl (sub_of [] rfl) (fun _ _ h => r_neqA (eqTy _ _) egTy rfl rfl h) (dj_end (ej_then (hK10 _ _ _ (CJ.s [(0, _), (1, _), (12, _), (13, _), (24, _)] ⟨rfl, rfl, rfl, rfl, rfl, trivial⟩ ?_))))))))))))
  refine cj_if_f rfl ?_
  refine cj_skip (ej_blk (ej_then (hK8 _ _ _ (CJ.s [(0, _), (1, _), (12, _), (13, _)] ⟨rfl, rfl, rfl, rfl, trivial⟩ (cj_reg (j_val rfl (fun _ _ h => r_inc (by omega) rfl rfl h) (jM rfl rfl (j_nil (ej_then ?_)))))))))
  exact fun w' hH hf => hKL (k + 1) _ w' hk' hf .nil (by omega) ⟨rfl, rfl, rfl, rfl, trivial⟩
 ·refine cj_exit (ej_then_exit (ej_then_exit (ej_blk_hit (ej_then (hK4 _ _ _ (CJ.s [] trivial (cj_seqF fun K11 hK11 => cj_reg (jA rfl rfl (j_nil (ej_then (hK11 _ _ _ (CJ.s [(4, _)] ⟨rfl, trivial⟩ (cj_ret (?_))))))))))))))
  exact ej_ret1 Tryz.results29 rfl fun w' hH hf => ⟨rfl, hf⟩

theorem slMp_c (w : World) (v u : Value) (xs : List PMapping) (hv : Lay RMapping 10 w v xs) (hu : Lay RMapping 10 w u xs) : Calls Tryz.prog 32 #[v, u] w (Ret fun r w' => r = .bool true ∧ Fr 0 [] w w') := by
 obtain ⟨p, c, rfl, hl, hx⟩ := hv.open
 obtain ⟨q, c2, rfl, -, hy⟩ := hu.open
 refine startJ (args := [_, _]) [(0, _), (1, _)] 0 [] [] Tryz.func32 rfl Tryz.ntmps32 rfl rfl .nil ?_
 refine cj_seqF fun K1 hK1 => cj_reg (jA rfl rfl (j_nil (ej_then (hK1 _ _ _ (CJ.s [(0, _), (1, _)] ⟨rfl, rfl, trivial⟩ (cj_seqF fun K2 hK2 => cj_seqF fun K3 hK3 => cj_reg (jM rfl rfl (j_val rfl (fun _ _ h => r_len Tryz.runUnderlying24 rfl h) (jM rfl rfl (j_val rfl (fun _ _ h => r_len Tryz.runUnderlying24 rfl h) (j_val rfl (fun _ _ h => r_neq rfl rfl h) ?_)))))))))))
 refine j_eqv (u := .bool false) (congrArg Value.bool (by simp)) ?_
 refine j_nil (ej_then (hK3 _ _ _ (CJ.s [(0, _), (1, _), (10, _)] ⟨rfl, rfl, rfl, trivial⟩ ?_)))
 refine cj_if_f rfl ?_
 refine cj_skip (ej_then (hK2 _ _ _ (CJ.s [(0, _), (1, _)] ⟨rfl, rfl, trivial⟩ (cj_seqF fun K4 hK4 => cj_seqF fun K5 hK5 => cj_reg (jM rfl rfl (j_val rfl (fun _ _ h => r_len Tryz.runUnderlying24 rfl h) (jM rfl rfl (j_nil (ej_then (hK5 _ _ _ (CJ.s [(0, _), (1, _), (12, _), (13, _)] ⟨rfl, rfl, rfl, rfl, trivial⟩ (cj_block ?_))))))))))))
 -- LOOP 0 live [0, 1, 12, 13]
 refine cj_loop (σ := Nat) (fun k => [(0, .slice p xs.length c), (1, .slice q xs.length c2), (12, .int .i64 (xs.length : Nat)), (13, .int .i64 (k : Nat))]) (fun _ => []) (fun k _ => k ≤ xs.length) (fun k => xs.length - k) 0 ⟨rfl, rfl, rfl, rfl, trivial⟩ (fun w hH hf => ⟨.nil, Nat.zero_le _⟩) ?_
 rintro k w1 hk hf1 hH1 KL hKL
 refine C.begin _ [] hf1 .nil ?_
 refine CJ.s [(0, .slice p xs.length c), (1, .slice q xs.length c2), (12, .int .i64 (xs.length : Nat)), (13, .int .i64 (k : Nat))] ⟨rfl, rfl, rfl, rfl, trivial⟩ (cj_seqF fun K6 hK6 => cj_reg (j_val rfl (fun _ _ h => r_lss rfl rfl h) (j_nil (ej_then (hK6 _ _ _ (CJ.s [(0, _), (1, _), (12, _), (13, _), (14, _)] ⟨rfl, rfl, rfl, rfl, rfl, trivial⟩ (cj_seqF fun K7 hK7 => ?_)))))))
 refine cj_dec rfl (fun h14 => ?_) (fun h14 => ?_)
 ·have hk' : k < xs.length := by omega
  obtain ⟨b, o, cs, rfl, -, hR, hcell⟩ := hx k xs[k] (List.getElem?_eq_getElem hk')
  obtain ⟨b2, o2, cs2, rfl, -, hR2, hcell2⟩ := hy k xs[k] (List.getElem?_eq_getElem hk')
  obtain ⟨rfl, -⟩ := hR
  obtain ⟨rfl, -⟩ := hR2
  refine cj_skip (ej_then (hK7 _ _ _ (CJ.s [(0, _), (1, _), (12, _), (13, _)] ⟨rfl, rfl, rfl, rfl, trivial⟩ (cj_seqF fun K8 hK8 => cj_block (cj_seqF fun K9 hK9 => cj_reg (jM rfl rfl (jA rfl rfl (j_nil (ej_then (hK9 _ _ _ (CJ.s [(0, _), (1, _), (5, _), (12, _), (13, _)] ⟨rfl, rfl, rfl, rfl, rfl, trivial⟩ (cj_seqF fun K10 hK10 => ?_))))))))))))
  refine cj_drawI 9 [(0, true), (1, true), (2, true), (3, true), (4, true), (5, true), (6, true), (7, true), (8, true)] [] rfl (by kernel_rfl) (by kernel_rfl) ?_
  refine dj_val rfl rfl (sub_of [] rfl) (fun _ _ h => r_move rfl h) (dj_val rfl rfl (sub_of [] rfl) (fun _ _ h => r_move rfl h) (dj_val rfl rfl (sub_of [] rfl) (fun _ _ h => r_idx Tryz.runUnderlying24 Tryz.sizeOf70 rfl rfl (by omega) h) (dj_ld rfl rfl (sub_of [] rfl) (fun a w ha hS => r_loadA Tryz.isAgg70 Tryz.sizeOf70 rfl rfl (hcell w (hS.2.keepAll (.inr rfl))) ha) (dj_val rfl rfl (sub_of [] rfl) (fun _ _ h => r_move rfl h) (dj_val rfl rfl (sub_of [] rfl) (fun _ _ h => r_move rfl h) (dj_val rfl rfl (sub_of [] rfl) (fun _ _ h => r_idx Tryz.runUnderlying24 Tryz.sizeOf70 rfl rfl (by omega) h) (dj_ld rfl rfl (sub_of [] rfl) (fun a w ha hS => r_loadA Tryz.isAgg70 Tryz.sizeOf70 rfl rfl (hcell2 w (hS.2.keepAll (.inr rfl))) ha) (dj_val rfl rfl (sub_of [] rfl) (fun _ _ h => r_neqA (eqMp _ _ _ _ _ _ _ _ _ _) egMp rfl rfl h) (dj_end (ej_then (hK10 _ _ _ (CJ.s [(0, _), (1, _), (12, _), (13, _), (24, _)] ⟨rfl, rfl, rfl, rfl, rfl, trivial⟩ ?_))))))))))))
  refine cj_if_f rfl ?_
  refine cj_skip (ej_blk (ej_then (hK8 _ _ _ (CJ.s [(0, _), (1, _), (12, _), (13, _)] ⟨rfl, rfl, rfl, rfl, trivial⟩ (cj_reg (j_val rfl (fun _ _ h => r_inc (by omega) rfl rfl h) (jM rfl rfl (j_nil (ej_then ?_)))))))))
  exact fun w' hH hf => hKL (k + 1) _ w' hk' hf .nil (by omega) ⟨rfl, rfl, rfl, rfl, trivial⟩
 ·refine cj_exit (ej_then_exit (ej_then_exit (ej_blk_hit (ej_then (hK4 _ _ _ (CJ.s [] trivial (cj_seqF fun K11 hK11 => cj_reg (jA rfl rfl (j_nil (ej_then (hK11 _ _ _ (CJ.s [(4, _)] ⟨rfl, trivial⟩ (cj_ret (?_))))))))))))))
  exact ej_ret1 Tryz.results32 rfl fun w' hH hf => ⟨rfl, hf⟩

theorem slFn_c (w : World) (v u : Value) (xs : List PFunc) (hv : Lay RFunc 5 w v xs) (hu : Lay RFunc 5 w u xs) : Calls Tryz.prog 35 #[v, u] w (Ret fun r w' => r = .bool true ∧ Fr 0 [] w w') := by
 obtain ⟨p, c, rfl, hl, hx⟩ := hv.open
 obtain ⟨q, c2, rfl, -, hy⟩ := hu.open
 refine startJ (args := [_, _]) [(0, _), (1, _)] 0 [] [] Tryz.func35 rfl Tryz.ntmps35 rfl rfl .nil ?_
 refine cj_seqF fun K1 hK1 => cj_reg (jA rfl rfl (j_nil (ej_then (hK1 _ _ _ (CJ.s [(0, _), (1, _)] ⟨rfl, rfl, trivial⟩ (cj_seqF fun K2 hK2 => cj_seqF fun K3 hK3 => cj_reg (jM rfl rfl (j_val rfl (fun _ _ h => r_len Tryz.runUnderlying26 rfl h) (jM rfl rfl (j_val rfl (fun _ _ h => r_len Tryz.runUnderlying26 rfl h) (j_val rfl (fun _ _ h => r_neq rfl rfl h) ?_)))))))))))
 refine j_eqv (u := .bool false) (congrArg Value.bool (by simp)) ?_
 refine j_nil (ej_then (hK3 _ _ _ (CJ.s [(0, _), (1, _), (10, _)] ⟨rfl, rfl, rfl, trivial⟩ ?_)))
 refine cj_if_f rfl ?_
 refine cj_skip (ej_then (hK2 _ _ _ (CJ.s [(0, _), (1, _)] ⟨rfl, rfl, trivial⟩ (cj_seqF fun K4 hK4 => cj_seqF fun K5 hK5 => cj_reg (jM rfl rfl (j_val rfl (fun _ _ h => r_len Tryz.runUnderlying26 rfl h) (jM rfl rfl (j_nil (ej_then (hK5 _ _ _ (CJ.s [(0, _), (1, _), (12, _), (13, _)] ⟨rfl, rfl, rfl, rfl, trivial⟩ (cj_block ?_))))))))))))
 -- LOOP 0 live [0, 1, 12, 13]
 refine cj_loop (σ := Nat) (fun k => [(0, .slice p xs.length c), (1, .slice q xs.length c2), (12, .int .i64 (xs.length : Nat)), (13, .int .i64 (k : Nat))]) (fun _ => []) (fun k _ => k ≤ xs.length) (fun k => xs.length - k) 0 ⟨rfl, rfl, rfl, rfl, trivial⟩ (fun w hH hf => ⟨.nil, Nat.zero_le _⟩) ?_
 rintro k w1 hk hf1 hH1 KL hKL
 refine C.begin _ [] hf1 .nil ?_
 refine CJ.s [(0, .slice p xs.length c), (1, .slice q xs.length c2), (12, .int .i64 (xs.length : Nat)), (13, .int .i64 (k : Nat))] ⟨rfl, rfl, rfl, rfl, trivial⟩ (cj_seqF fun K6 hK6 => cj_reg (j_val rfl (fun _ _ h => r_lss rfl rfl h) (j_nil (ej_then (hK6 _ _ _ (CJ.s [(0, _), (1, _), (12, _), (13, _), (14, _)] ⟨rfl, rfl, rfl, rfl, rfl, trivial⟩ (cj_seqF fun K7 hK7 => ?_)))))))
 refine cj_dec rfl (fun h14 => ?_) (fun h14 => ?_)
 ·have hk' : k < xs.length := by omega
  obtain ⟨b, o, cs, rfl, -, hR, hcell⟩ := hx k xs[k] (List.getElem?_eq_getElem hk')
  obtain ⟨b2, o2, cs2, rfl, -, hR2, hcell2⟩ := hy k xs[k] (List.getElem?_eq_getElem hk')
  obtain ⟨rfl, -⟩ := hR
  obtain ⟨rfl, -⟩ := hR2
  refine cj_skip (ej_then (hK7 _ _ _ (CJ.s [(0, _), (1, _), (12, _), (13, _)] ⟨rfl, rfl, rfl, rfl, trivial⟩ (cj_seqF fun K8 hK8 => cj_block (cj_seqF fun K9 hK9 => cj_reg (jM rfl rfl (jA rfl rfl (j_nil (ej_then (hK9 _ _ _ (CJ.s [(0, _), (1, _), (5, _), (12, _), (13, _)] ⟨rfl, rfl, rfl, rfl, rfl, trivial⟩ (cj_seqF fun K10 hK10 => ?_))))))))))))
  refine cj_drawI 9 [(0, true), (1, true), (2, true), (3, true), (4, true), (5, true), (6, true), (7, true), (8, true)] [] rfl (by kernel_rfl) (by kernel_rfl) ?_
  refine dj_val rfl rfl (sub_of [] rfl) (fun _ _ h => r_move rfl h) (dj_val rfl rfl (sub_of [] rfl) (fun _ _ h => r_move rfl h) (dj_val rfl rfl (sub_of [] rfl) (fun _ _ h => r_idx Tryz.runUnderlying26 Tryz.sizeOf72 rfl rfl (by omega) h) (dj_ld rfl rfl (sub_of [] rfl) (fun a w ha hS => r_loadA Tryz.isAgg72 Tryz.sizeOf72 rfl rfl (hcell w (hS.2.keepAll (.inr rfl))) ha) (dj_val rfl rfl (sub_of [] rfl) (fun _ _ h => r_move rfl h) (dj_val rfl rfl (sub_of [] rfl) (fun _ _ h => r_move rfl h) (dj_val rfl rfl (sub_of [] rfl) (fun _ _ h => r_idx Tryz.runUnderlying26 Tryz.sizeOf72 rfl rfl (by omega) h) (dj_ld rfl rfl (sub_of [] rfl) (fun a w ha hS => r_loadA Tryz.isAgg72 Tryz.sizeOf72 rfl rfl (hcell2 w (hS.2.keepAll (.inr rfl))) ha) (dj_val rfl rfl (sub_of [] rfl) (fun _ _ h => r_neqA (eqFn _ _ _ _ _) egFn rfl rfl h) (dj_end (ej_then (hK10 _ _ _ (CJ.s [(0, _), (1, _), (12, _), (13, _), (24, _)] ⟨rfl, rfl, rfl, rfl, rfl, trivial⟩ ?_))))))))))))
  refine cj_if_f rfl ?_
  refine cj_skip (ej_blk (ej_then (hK8 _ _ _ (CJ.s [(0, _), (1, _), (12, _), (13, _)] ⟨rfl, rfl, rfl, rfl, trivial⟩ (cj_reg (j_val rfl (fun _ _ h => r_inc (by omega) rfl rfl h) (jM rfl rfl (j_nil (ej_then ?_)))))))))
  exact fun w' hH hf => hKL (k + 1) _ w' hk' hf .nil (by omega) ⟨rfl, rfl, rfl, rfl, trivial⟩
 ·refine cj_exit (ej_then_exit (ej_then_exit (ej_blk_hit (ej_then (hK4 _ _ _ (CJ.s [] trivial (cj_seqF fun K11 hK11 => cj_reg (jA rfl rfl (j_nil (ej_then (hK11 _ _ _ (CJ.s [(4, _)] ⟨rfl, trivial⟩ (cj_ret (?_))))))))))))))
  exact ej_ret1 Tryz.results35 rfl fun w' hH hf => ⟨rfl, hf⟩

theorem slLn_c (w : World) (v u : Value) (xs : List PLine) (hv : Lay RLine 2 w v xs) (hu : Lay RLine 2 w u xs) : Calls Tryz.prog 63 #[v, u] w (Ret fun r w' => r = .bool true ∧ Fr 0 [] w w') := by
 obtain ⟨p, c, rfl, hl, hx⟩ := hv.open
 obtain ⟨q, c2, rfl, -, hy⟩ := hu.open
 refine startJ (args := [_, _]) [(0, _), (1, _)] 0 [] [] Tryz.func63 rfl Tryz.ntmps63 rfl rfl .nil ?_
 refine cj_seqF fun K1 hK1 => cj_reg (jA rfl rfl (j_nil (ej_then (hK1 _ _ _ (CJ.s [(0, _), (1, _)] ⟨rfl, rfl, trivial⟩ (cj_seqF fun K2 hK2 => cj_seqF fun K3 hK3 => cj_reg (jM rfl rfl (j_val rfl (fun _ _ h => r_len Tryz.runUnderlying74 rfl h) (jM rfl rfl (j_val rfl (fun _ _ h => r_len Tryz.runUnderlying74 rfl h) (j_val rfl (fun _ _ h => r_neq rfl rfl h) ?_)))))))))))
 refine j_eqv (u := .bool false) (congrArg Value.bool (by simp)) ?_
 refine j_nil (ej_then (hK3 _ _ _ (CJ.s [(0, _), (1, _), (10, _)] ⟨rfl, rfl, rfl, trivial⟩ ?_)))
 refine cj_if_f rfl ?_
 refine cj_skip (ej_then (hK2 _ _ _ (CJ.s [(0, _), (1, _)] ⟨rfl, rfl, trivial⟩ (cj_seqF fun K4 hK4 => cj_seqF fun K5 hK5 => cj_reg (jM rfl rfl (j_val rfl (fun _ _ h => r_len Tryz.runUnderlying74 rfl h) (jM rfl rfl (j_nil (ej_then (hK5 _ _ _ (CJ.s [(0, _), (1, _), (12, _), (13, _)] ⟨rfl, rfl, rfl, rfl, trivial⟩ (cj_block ?_))))))))))))
 -- LOOP 0 live [0, 1, 12, 13]
 refine cj_loop (σ := Nat) (fun k => [(0, .slice p xs.length c), (1, .slice q xs.length c2), (12, .int .i64 (xs.length : Nat)), (13, .int .i64 (k : Nat))]) (fun _ => []) (fun k _ => k ≤ xs.length) (fun k => xs.length - k) 0 ⟨rfl, rfl, rfl, rfl, trivial⟩ (fun w hH hf => ⟨.nil, Nat.zero_le _⟩) ?_
 rintro k w1 hk hf1 hH1 KL hKL
 refine C.begin _ [] hf1 .nil ?_
 refine CJ.s [(0, .slice p xs.length c), (1, .slice q xs.length c2), (12, .int .i64 (xs.length : Nat)), (13, .int .i64 (k : Nat))] ⟨rfl, rfl, rfl, rfl, trivial⟩ (cj_seqF fun K6 hK6 => cj_reg (j_val rfl (fun _ _ h => r_lss rfl rfl h) (j_nil (ej_then (hK6 _ _ _ (CJ.s [(0, _), (1, _), (12, _), (13, _), (14, _)] ⟨rfl, rfl, rfl, rfl, rfl, trivial⟩ (cj_seqF fun K7 hK7 => ?_)))))))
 refine cj_dec rfl (fun h14 => ?_) (fun h14 => ?_)
 ·have hk' : k < xs.length := by omega
  obtain ⟨b, o, cs, rfl, -, hR, hcell⟩ := hx k xs[k] (List.getElem?_eq_getElem hk')
  obtain ⟨b2, o2, cs2, rfl, -, hR2, hcell2⟩ := hy k xs[k] (List.getElem?_eq_getElem hk')
  obtain ⟨rfl, -⟩ := hR
  obtain ⟨rfl, -⟩ := hR2
  refine cj_skip (ej_then (hK7 _ _ _ (CJ.s [(0, _), (1, _), (12, _), (13, _)] ⟨rfl, rfl, rfl, rfl, trivial⟩ (cj_seqF fun K8 hK8 => cj_block (cj_seqF fun K9 hK9 => cj_reg (jM rfl rfl (jA rfl rfl (j_nil (ej_then (hK9 _ _ _ (CJ.s [(0, _), (1, _), (5, _), (12, _), (13, _)] ⟨rfl, rfl, rfl, rfl, rfl, trivial⟩ (cj_seqF fun K10 hK10 => ?_))))))))))))
  refine cj_drawI 9 [(0, true), (1, true), (2, true), (3, true), (4, true), (5, true), (6, true), (7, true), (8, true)] [] rfl (by kernel_rfl) (by kernel_rfl) ?_
  refine dj_val rfl rfl (sub_of [] rfl) (fun _ _ h => r_move rfl h) (dj_val rfl rfl (sub_of [] rfl) (fun _ _ h => r_move rfl h) (dj_val rfl rfl (sub_of [] rfl) (fun _ _ h => r_idx Tryz.runUnderlying74 Tryz.sizeOf78 rfl rfl (by omega) h) (dj_ld rfl rfl (sub_of [] rfl) (fun a w ha hS => r_loadA Tryz.isAgg78 Tryz.sizeOf78 rfl rfl (hcell w (hS.2.keepAll (.inr rfl))) ha) (dj_val rfl rfl (sub_of [] rfl) (fun _ _ h => r_move rfl h) (dj_val rfl rfl (sub_of [] rfl) (fun _ _ h => r_move rfl h) (dj_val rfl rfl (sub_of [] rfl) (fun _ _ h => r_idx Tryz.runUnderlying74 Tryz.sizeOf78 rfl rfl (by omega) h) (dj_ld rfl rfl (sub_of [] rfl) (fun a w ha hS => r_loadA Tryz.isAgg78 Tryz.sizeOf78 rfl rfl (hcell2 w (hS.2.keepAll (.inr rfl))) ha) (dj_val rfl rfl (sub_of [] rfl) (fun _ _ h => r_neqA (eqLn _ _) egLn rfl rfl h) (dj_end (ej_then (hK10 _ _ _ (CJ.s [(0, _), (1, _), (12, _), (13, _), (24, _)] ⟨rfl, rfl, rfl, rfl, rfl, trivial⟩ ?_))))))))))))
  refine cj_if_f rfl ?_
  refine cj_skip (ej_blk (ej_then (hK8 _ _ _ (CJ.s [(0, _), (1, _), (12, _), (13, _)] ⟨rfl, rfl, rfl, rfl, trivial⟩ (cj_reg (j_val rfl (fun _ _ h => r_inc (by omega) rfl rfl h) (jM rfl rfl (j_nil (ej_then ?_)))))))))
  exact fun w' hH hf => hKL (k + 1) _ w' hk' hf .nil (by omega) ⟨rfl, rfl, rfl, rfl, trivial⟩
 ·refine cj_exit (ej_then_exit (ej_then_exit (ej_blk_hit (ej_then (hK4 _ _ _ (CJ.s [] trivial (cj_seqF fun K11 hK11 => cj_reg (jA rfl rfl (j_nil (ej_then (hK11 _ _ _ (CJ.s [(4, _)] ⟨rfl, trivial⟩ (cj_ret (?_))))))))))))))
  exact ej_ret1 Tryz.results63 rfl fun w' hH hf => ⟨rfl, hf⟩

theorem slSt_c (w : World) (v u : Value) (xs : List ByteArray) (hv : Lay RStr 1 w v xs) (hu : Lay RStr 1 w u xs) : Calls Tryz.prog 36 #[v, u] w (Ret fun r w' => r = .bool true ∧ Fr 0 [] w w') := by
 obtain ⟨p, c, rfl, hl, hx⟩ := hv.open
 obtain ⟨q, c2, rfl, -, hy⟩ := hu.open
 refine startJ (args := [_, _]) [(0, _), (1, _)] 0 [] [] Tryz.func36 rfl Tryz.ntmps36 rfl rfl .nil ?_
 refine cj_seqF fun K1 hK1 => cj_reg (jA rfl rfl (j_nil (ej_then (hK1 _ _ _ (CJ.s [(0, _), (1, _)] ⟨rfl, rfl, trivial⟩ (cj_seqF fun K2 hK2 => cj_seqF fun K3 hK3 => cj_reg (jM rfl rfl (j_val rfl (fun _ _ h => r_len Tryz.runUnderlying27 rfl h) (jM rfl rfl (j_val rfl (fun _ _ h => r_len Tryz.runUnderlying27 rfl h) (j_val rfl (fun _ _ h => r_neq rfl rfl h) ?_)))))))))))
 refine j_eqv (u := .bool false) (congrArg Value.bool (by simp)) ?_
 refine j_nil (ej_then (hK3 _ _ _ (CJ.s [(0, _), (1, _), (10, _)] ⟨rfl, rfl, rfl, trivial⟩ ?_)))
 refine cj_if_f rfl ?_
 refine cj_skip (ej_then (hK2 _ _ _ (CJ.s [(0, _), (1, _)] ⟨rfl, rfl, trivial⟩ (cj_seqF fun K4 hK4 => cj_seqF fun K5 hK5 => cj_reg (jM rfl rfl (j_val rfl (fun _ _ h => r_len Tryz.runUnderlying27 rfl h) (jM rfl rfl (j_nil (ej_then (hK5 _ _ _ (CJ.s [(0, _), (1, _), (12, _), (13, _)] ⟨rfl, rfl, rfl, rfl, trivial⟩ (cj_block ?_))))))))))))
 -- LOOP 0 live [0, 1, 12, 13]
 refine cj_loop (σ := Nat) (fun k => [(0, .slice p xs.length c), (1, .slice q xs.length c2), (12, .int .i64 (xs.length : Nat)), (13, .int .i64 (k : Nat))]) (fun _ => []) (fun k _ => k ≤ xs.length) (fun k => xs.length - k) 0 ⟨rfl, rfl, rfl, rfl, trivial⟩ (fun w hH hf => ⟨.nil, Nat.zero_le _⟩) ?_
 rintro k w1 hk hf1 hH1 KL hKL
 refine C.begin _ [] hf1 .nil ?_
 refine CJ.s [(0, .slice p xs.length c), (1, .slice q xs.length c2), (12, .int .i64 (xs.length : Nat)), (13, .int .i64 (k : Nat))] ⟨rfl, rfl, rfl, rfl, trivial⟩ (cj_seqF fun K6 hK6 => cj_reg (j_val rfl (fun _ _ h => r_lss rfl rfl h) (j_nil (ej_then (hK6 _ _ _ (CJ.s [(0, _), (1, _), (12, _), (13, _), (14, _)] ⟨rfl, rfl, rfl, rfl, rfl, trivial⟩ (cj_seqF fun K7 hK7 => ?_)))))))
 refine cj_dec rfl (fun h14 => ?_) (fun h14 => ?_)
 ·have hk' : k < xs.length := by omega
  obtain ⟨b, o, cs, rfl, -, hR, hcell⟩ := hx k xs[k] (List.getElem?_eq_getElem hk')
  obtain ⟨b2, o2, cs2, rfl, -, hR2, hcell2⟩ := hy k xs[k] (List.getElem?_eq_getElem hk')
  unfold RStr at hR hR2
  subst hR; subst hR2
  refine cj_skip (ej_then (hK7 _ _ _ (CJ.s [(0, _), (1, _), (12, _), (13, _)] ⟨rfl, rfl, rfl, rfl, trivial⟩ (cj_seqF fun K8 hK8 => cj_block (cj_seqF fun K9 hK9 => cj_reg (jM rfl rfl (jA rfl rfl (j_nil (ej_then (hK9 _ _ _ (CJ.s [(0, _), (1, _), (5, _), (12, _), (13, _)] ⟨rfl, rfl, rfl, rfl, rfl, trivial⟩ (cj_seqF fun K10 hK10 => ?_))))))))))))
  refine cj_drawI 9 [(0, true), (1, true), (2, true), (3, true), (4, true), (5, true), (6, true), (7, true), (8, true)] [] rfl (by kernel_rfl) (by kernel_rfl) ?_
  refine dj_val rfl rfl (sub_of [] rfl) (fun _ _ h => r_move rfl h) (dj_val rfl rfl (sub_of [] rfl) (fun _ _ h => r_move rfl h) (dj_val rfl rfl (sub_of [] rfl) (fun _ _ h => r_idx Tryz.runUnderlying27 Tryz.sizeOf9 rfl rfl (by omega) h) (dj_ld rfl rfl (sub_of [] rfl) (fun a w ha hS => r_load Tryz.isAgg9 rfl (hcell w (hS.2.keepAll (.inr rfl)) 0 _ rfl) ha) (dj_val rfl rfl (sub_of [] rfl) (fun _ _ h => r_move rfl h) (dj_val rfl rfl (sub_of [] rfl) (fun _ _ h => r_move rfl h) (dj_val rfl rfl (sub_of [] rfl) (fun _ _ h => r_idx Tryz.runUnderlying27 Tryz.sizeOf9 rfl rfl (by omega) h) (dj_ld rfl rfl (sub_of [] rfl) (fun a w ha hS => r_load Tryz.isAgg9 rfl (hcell2 w (hS.2.keepAll (.inr rfl)) 0 _ rfl) ha) (dj_val rfl rfl (sub_of [] rfl) (fun _ _ h => r_sneq rfl rfl h) ?_))))))))
  refine dj_eqv (u := .bool false) (congrArg Value.bool (by simp)) ?_
  refine dj_end (ej_then (hK10 _ _ _ (CJ.s [(0, _), (1, _), (12, _), (13, _), (24, _)] ⟨rfl, rfl, rfl, rfl, rfl, trivial⟩ ?_)))
  refine cj_if_f rfl ?_
  refine cj_skip (ej_blk (ej_then (hK8 _ _ _ (CJ.s [(0, _), (1, _), (12, _), (13, _)] ⟨rfl, rfl, rfl, rfl, trivial⟩ (cj_reg (j_val rfl (fun _ _ h => r_inc (by omega) rfl rfl h) (jM rfl rfl (j_nil (ej_then ?_)))))))))
  exact fun w' hH hf => hKL (k + 1) _ w' hk' hf .nil (by omega) ⟨rfl, rfl, rfl, rfl, trivial⟩
 ·refine cj_exit (ej_then_exit (ej_then_exit (ej_blk_hit (ej_then (hK4 _ _ _ (CJ.s [] trivial (cj_seqF fun K11 hK11 => cj_reg (jA rfl rfl (j_nil (ej_then (hK11 _ _ _ (CJ.s [(4, _)] ⟨rfl, trivial⟩ (cj_ret (?_))))))))))))))
  exact ej_ret1 Tryz.results36 rfl fun w' hH hf => ⟨rfl, hf⟩

theorem slIn_c (w : World) (v u : Value) (xs : List Int) (hv : Lay (RInt .i64) 1 w v xs) (hu : Lay (RInt .i64) 1 w u xs) : Calls Tryz.prog 57 #[v, u] w (Ret fun r w' => r = .bool true ∧ Fr 0 [] w w') := by
 obtain ⟨p, c, rfl, hl, hx⟩ := hv.open
 obtain ⟨q, c2, rfl, -, hy⟩ := hu.open
 refine startJ (args := [_, _]) [(0, _), (1, _)] 0 [] [] Tryz.func57 rfl Tryz.ntmps57 rfl rfl .nil ?_
 refine cj_seqF fun K1 hK1 => cj_reg (jA rfl rfl (j_nil (ej_then (hK1 _ _ _ (CJ.s [(0, _), (1, _)] ⟨rfl, rfl, trivial⟩ (cj_seqF fun K2 hK2 => cj_seqF fun K3 hK3 => cj_reg (jM rfl rfl (j_val rfl (fun _ _ h => r_len Tryz.runUnderlying45 rfl h) (jM rfl rfl (j_val rfl (fun _ _ h => r_len Tryz.runUnderlying45 rfl h) (j_val rfl (fun _ _ h => r_neq rfl rfl h) ?_)))))))))))
 refine j_eqv (u := .bool false) (congrArg Value.bool (by simp)) ?_
 refine j_nil (ej_then (hK3 _ _ _ (CJ.s [(0, _), (1, _), (10, _)] ⟨rfl, rfl, rfl, trivial⟩ ?_)))
 refine cj_if_f rfl ?_
 refine cj_skip (ej_then (hK2 _ _ _ (CJ.s [(0, _), (1, _)] ⟨rfl, rfl, trivial⟩ (cj_seqF fun K4 hK4 => cj_seqF fun K5 hK5 => cj_reg (jM rfl rfl (j_val rfl (fun _ _ h => r_len Tryz.runUnderlying45 rfl h) (jM rfl rfl (j_nil (ej_then (hK5 _ _ _ (CJ.s [(0, _), (1, _), (12, _), (13, _)] ⟨rfl, rfl, rfl, rfl, trivial⟩ (cj_block ?_))))))))))))
 -- LOOP 0 live [0, 1, 12, 13]
 refine cj_loop (σ := Nat) (fun k => [(0, .slice p xs.length c), (1, .slice q xs.length c2), (12, .int .i64 (xs.length : Nat)), (13, .int .i64 (k : Nat))]) (fun _ => []) (fun k _ => k ≤ xs.length) (fun k => xs.length - k) 0 ⟨rfl, rfl, rfl, rfl, trivial⟩ (fun w hH hf => ⟨.nil, Nat.zero_le _⟩) ?_
 rintro k w1 hk hf1 hH1 KL hKL
 refine C.begin _ [] hf1 .nil ?_
 refine CJ.s [(0, .slice p xs.length c), (1, .slice q xs.length c2), (12, .int .i64 (xs.length : Nat)), (13, .int .i64 (k : Nat))] ⟨rfl, rfl, rfl, rfl, trivial⟩ (cj_seqF fun K6 hK6 => cj_reg (j_val rfl (fun _ _ h => r_lss rfl rfl h) (j_nil (ej_then (hK6 _ _ _ (CJ.s [(0, _), (1, _), (12, _), (13, _), (14, _)] ⟨rfl, rfl, rfl, rfl, rfl, trivial⟩ (cj_seqF fun K7 hK7 => ?_)))))))
 refine cj_dec rfl (fun h14 => ?_) (fun h14 => ?_)
 ·have hk' : k < xs.length := by omega
  obtain ⟨b, o, cs, rfl, -, hR, hcell⟩ := hx k xs[k] (List.getElem?_eq_getElem hk')
  obtain ⟨b2, o2, cs2, rfl, -, hR2, hcell2⟩ := hy k xs[k] (List.getElem?_eq_getElem hk')
  obtain ⟨rfl, -⟩ := hR
  obtain ⟨rfl, -⟩ := hR2
  refine cj_skip (ej_then (hK7 _ _ _ (CJ.s [(0, _), (1, _), (12, _), (13, _)] ⟨rfl, rfl, rfl, rfl, trivial⟩ (cj_seqF fun K8 hK8 => cj_block (cj_seqF fun K9 hK9 => cj_reg (jM rfl rfl (jA rfl rfl (j_nil (ej_then (hK9 _ _ _ (CJ.s [(0, _), (1, _), (5, _), (12, _), (13, _)] ⟨rfl, rfl, rfl, rfl, rfl, trivial⟩ (cj_seqF fun K10 hK10 => ?_))))))))))))
  refine cj_drawI 9 [(0, true), (1, true), (2, true), (3, true), (4, true), (5, true), (6, true), (7, true), (8, true)] [] rfl (by kernel_rfl) (by kernel_rfl) ?_
  refine dj_val rfl rfl (sub_of [] rfl) (fun _ _ h => r_move rfl h) (dj_val rfl rfl (sub_of [] rfl) (fun _ _ h => r_move rfl h) (dj_val rfl rfl (sub_of [] rfl) (fun _ _ h => r_idx Tryz.runUnderlying45 Tryz.sizeOf3 rfl rfl (by omega) h) (dj_ld rfl rfl (sub_of [] rfl) (fun a w ha hS => r_load Tryz.isAgg3 rfl (hcell w (hS.2.keepAll (.inr rfl)) 0 _ rfl) ha) (dj_val rfl rfl (sub_of [] rfl) (fun _ _ h => r_move rfl h) (dj_val rfl rfl (sub_of [] rfl) (fun _ _ h => r_move rfl h) (dj_val rfl rfl (sub_of [] rfl) (fun _ _ h => r_idx Tryz.runUnderlying45 Tryz.sizeOf3 rfl rfl (by omega) h) (dj_ld rfl rfl (sub_of [] rfl) (fun a w ha hS => r_load Tryz.isAgg3 rfl (hcell2 w (hS.2.keepAll (.inr rfl)) 0 _ rfl) ha) (dj_val rfl rfl (sub_of [] rfl) (fun _ _ h => r_neq rfl rfl h) ?_))))))))
  refine dj_eqv (u := .bool false) (congrArg Value.bool (by simp)) ?_
  refine dj_end (ej_then (hK10 _ _ _ (CJ.s [(0, _), (1, _), (12, _), (13, _), (24, _)] ⟨rfl, rfl, rfl, rfl, rfl, trivial⟩ ?_)))
  refine cj_if_f rfl ?_
  refine cj_skip (ej_blk (ej_then (hK8 _ _ _ (CJ.s [(0, _), (1, _), (12, _), (13, _)] ⟨rfl, rfl, rfl, rfl, trivial⟩ (cj_reg (j_val rfl (fun _ _ h => r_inc (by omega) rfl rfl h) (jM rfl rfl (j_nil (ej_then ?_)))))))))
  exact fun w' hH hf => hKL (k + 1) _ w' hk' hf .nil (by omega) ⟨rfl, rfl, rfl, rfl, trivial⟩
 ·refine cj_exit (ej_then_exit (ej_then_exit (ej_blk_hit (ej_then (hK4 _ _ _ (CJ.s [] trivial (cj_seqF fun K11 hK11 => cj_reg (jA rfl rfl (j_nil (ej_then (hK11 _ _ _ (CJ.s [(4, _)] ⟨rfl, trivial⟩ (cj_ret (?_))))))))))))))
  exact ej_ret1 Tryz.results57 rfl fun w' hH hf => ⟨rfl, hf⟩

theorem slI6_c (w : World) (v u : Value) (xs : List Int) (hv : Lay (RInt .i64) 1 w v xs) (hu : Lay (RInt .i64) 1 w u xs) : Calls Tryz.prog 58 #[v, u] w (Ret fun r w' => r = .bool true ∧ Fr 0 [] w w') := by
 obtain ⟨p, c, rfl, hl, hx⟩ := hv.open
 obtain ⟨q, c2, rfl, -, hy⟩ := hu.open
 refine startJ (args := [_, _]) [(0, _), (1, _)] 0 [] [] Tryz.func58 rfl Tryz.ntmps58 rfl rfl .nil ?_
 refine cj_seqF fun K1 hK1 => cj_reg (jA rfl rfl (j_nil (ej_then (hK1 _ _ _ (CJ.s [(0, _), (1, _)] ⟨rfl, rfl, trivial⟩ (cj_seqF fun K2 hK2 => cj_seqF fun K3 hK3 => cj_reg (jM rfl rfl (j_val rfl (fun _ _ h => r_len Tryz.runUnderlying46 rfl h) (jM rfl rfl (j_val rfl (fun _ _ h => r_len Tryz.runUnderlying46 rfl h) (j_val rfl (fun _ _ h => r_neq rfl rfl h) ?_)))))))))))
 refine j_eqv (u := .bool false) (congrArg Value.bool (by simp)) ?_
 refine j_nil (ej_then (hK3 _ _ _ (CJ.s [(0, _), (1, _), (10, _)] ⟨rfl, rfl, rfl, trivial⟩ ?_)))
 refine cj_if_f rfl ?_
 refine cj_skip (ej_then (hK2 _ _ _ (CJ.s [(0, _), (1, _)] ⟨rfl, rfl, trivial⟩ (cj_seqF fun K4 hK4 => cj_seqF fun K5 hK5 => cj_reg (jM rfl rfl (j_val rfl (fun _ _ h => r_len Tryz.runUnderlying46 rfl h) (jM rfl rfl (j_nil (ej_then (hK5 _ _ _ (CJ.s [(0, _), (1, _), (12, _), (13, _)] ⟨rfl, rfl, rfl, rfl, trivial⟩ (cj_block ?_))))))))))))
 -- LOOP 0 live [0, 1, 12, 13]
 refine cj_loop (σ := Nat) (fun k => [(0, .slice p xs.length c), (1, .slice q xs.length c2), (12, .int .i64 (xs.length : Nat)), (13, .int .i64 (k : Nat))]) (fun _ => []) (fun k _ => k ≤ xs.length) (fun k => xs.length - k) 0 ⟨rfl, rfl, rfl, rfl, trivial⟩ (fun w hH hf => ⟨.nil, Nat.zero_le _⟩) ?_
 rintro k w1 hk hf1 hH1 KL hKL
 refine C.begin _ [] hf1 .nil ?_
 refine CJ.s [(0, .slice p xs.length c), (1, .slice q xs.length c2), (12, .int .i64 (xs.length : Nat)), (13, .int .i64 (k : Nat))] ⟨rfl, rfl, rfl, rfl, trivial⟩ (cj_seqF fun K6 hK6 => cj_reg (j_val rfl (fun _ _ h => r_lss rfl rfl h) (j_nil (ej_then (hK6 _ _ _ (CJ.s [(0, _), (1, _), (12, _), (13, _), (14, _)] ⟨rfl, rfl, rfl, rfl, rfl, trivial⟩ (cj_seqF fun K7 hK7 => ?_)))))))
 refine cj_dec rfl (fun h14 => ?_) (fun h14 => ?_)
 ·have hk' : k < xs.length := by omega
  obtain ⟨b, o, cs, rfl, -, hR, hcell⟩ := hx k xs[k] (List.getElem?_eq_getElem hk')
  obtain ⟨b2, o2, cs2, rfl, -, hR2, hcell2⟩ := hy k xs[k] (List.getElem?_eq_getElem hk')
  obtain ⟨rfl, -⟩ := hR
  obtain ⟨rfl, -⟩ := hR2
  refine cj_skip (ej_then (hK7 _ _ _ (CJ.s [(0, _), (1, _), (12, _), (13, _)] ⟨rfl, rfl, rfl, rfl, trivial⟩ (cj_seqF fun K8 hK8 => cj_block (cj_seqF fun K9 hK9 => cj_reg (jM rfl rfl (jA rfl rfl (j_nil (ej_then (hK9 _ _ _ (CJ.s [(0, _), (1, _), (5, _), (12, _), (13, _)] ⟨rfl, rfl, rfl, rfl, rfl, trivial⟩ (cj_seqF fun K10 hK10 => ?_))))))))))))
  refine cj_drawI 9 [(0, true), (1, true), (2, true), (3, true), (4, true), (5, true), (6, true), (7, true), (8, true)] [] rfl (by kernel_rfl) (by kernel_rfl) ?_
  refine dj_val rfl rfl (sub_of [] rfl) (fun _ _ h => r_move rfl h) (dj_val rfl rfl (sub_of [] rfl) (fun _ _ h => r_move rfl h) (dj_val rfl rfl (sub_of [] rfl) (fun _ _ h => r_idx Tryz.runUnderlying46 Tryz.sizeOf2 rfl rfl (by omega) h) (dj_ld rfl rfl (sub_of [] rfl) (fun a w ha hS => r_load Tryz.isAgg2 rfl (hcell w (hS.2.keepAll (.inr rfl)) 0 _ rfl) ha) (dj_val rfl rfl (sub_of [] rfl) (fun _ _ h => r_move rfl h) (dj_val rfl rfl (sub_of [] rfl) (fun _ _ h => r_move rfl h) (dj_val rfl rfl (sub_of [] rfl) (fun _ _ h => r_idx Tryz.runUnderlying46 Tryz.sizeOf2 rfl rfl (by omega) h) (dj_ld rfl rfl (sub_of [] rfl) (fun a w ha hS => r_load Tryz.isAgg2 rfl (hcell2 w (hS.2.keepAll (.inr rfl)) 0 _ rfl) ha) (dj_val rfl rfl (sub_of [] rfl) (fun _ _ h => r_neq rfl rfl h) ?_))))))))
  refine dj_eqv (u := .bool false) (congrArg Value.bool (by simp)) ?_
  refine dj_end (ej_then (hK10 _ _ _ (CJ.s [(0, _), (1, _), (12, _), (13, _), (24, _)] ⟨rfl, rfl, rfl, rfl, rfl, trivial⟩ ?_)))
  refine cj_if_f rfl ?_
  refine cj_skip (ej_blk (ej_then (hK8 _ _ _ (CJ.s [(0, _), (1, _), (12, _), (13, _)] ⟨rfl, rfl, rfl, rfl, trivial⟩ (cj_reg (j_val rfl (fun _ _ h => r_inc (by omega) rfl rfl h) (jM rfl rfl (j_nil (ej_then ?_)))))))))
  exact fun w' hH hf => hKL (k + 1) _ w' hk' hf .nil (by omega) ⟨rfl, rfl, rfl, rfl, trivial⟩
 ·refine cj_exit (ej_then_exit (ej_then_exit (ej_blk_hit (ej_then (hK4 _ _ _ (CJ.s [] trivial (cj_seqF fun K11 hK11 => cj_reg (jA rfl rfl (j_nil (ej_then (hK11 _ _ _ (CJ.s [(4, _)] ⟨rfl, trivial⟩ (cj_ret (?_))))))))))))))
  exact ej_ret1 Tryz.results58 rfl fun w' hH hf => ⟨rfl, hf⟩

theorem cl1_c (w : World) (cs ds : List Value) (x : PTexts) (hR : RTexts w cs x) (hR2 : RTexts w ds x) : Calls Tryz.prog 60 #[.agg cs.toArray, .agg ds.toArray] w (Ret fun r w' => r = .bool true ∧ Fr 0 [] w w') := by
 obtain ⟨l, rfl, h⟩ := hR
 obtain ⟨l2, rfl, h2⟩ := hR2
 obtain ⟨p, c, rfl, -⟩ := h.open
 obtain ⟨p2, c2, rfl, -⟩ := h2.open
 refine startJ (args := [_, _]) [(0, .agg (List.toArray [_, _])), (1, .agg (List.toArray [_, _]))] 0 [] [] Tryz.func60 rfl Tryz.ntmps60 rfl rfl .nil ?_
 refine cj_seqF fun K1 hK1 => cj_reg ?_
 refine j_boxA (vs := [_, _]) rfl rfl fun b2 => ?_
 refine j_boxA (vs := [_, _]) rfl rfl fun b3 => ?_
 refine jA rfl rfl (j_nil (ej_then (hK1 _ _ _ (CJ.s [(2, _), (3, _)] ⟨rfl, rfl, trivial⟩ (cj_seqF fun K2 hK2 => cj_reg (j_val rfl (fun _ _ h => r_fl (q := 0) (ft := 9) Tryz.runUnderlying96 rfl Tryz.sizeOf9 rfl h) (j_valw rfl (fun a w ha hH hf => r_ldH 1 rfl rfl Tryz.isAgg9 rfl rfl ha hH) (j_val rfl (fun _ _ h => r_fl (q := 0) (ft := 9) Tryz.runUnderlying96 rfl Tryz.sizeOf9 rfl h) (j_valw rfl (fun a w ha hH hf => r_ldH 0 rfl rfl Tryz.isAgg9 rfl rfl ha hH) (j_val rfl (fun _ _ h => r_seql rfl rfl h) ?_))))))))))
 refine j_eqv (u := .bool true) (congrArg Value.bool (by simp)) ?_
 refine jM rfl rfl (j_gt rfl rfl (j_val rfl (fun _ _ h => r_fl (q := 1) (ft := 27) Tryz.runUnderlying96 rfl Tryz.sizeOf27 rfl h) (j_gt rfl rfl (j_valw rfl (fun a w ha hH hf => r_ldH 1 rfl rfl Tryz.isAgg27 rfl rfl ha hH) (j_gt rfl rfl (j_val rfl (fun _ _ h => r_fl (q := 1) (ft := 27) Tryz.runUnderlying96 rfl Tryz.sizeOf27 rfl h) (j_gt rfl rfl (j_valw rfl (fun a w ha hH hf => r_ldH 0 rfl rfl Tryz.isAgg27 rfl rfl ha hH) (j_gt rfl rfl ?_)))))))))
 refine j_callQ (φ := fun r => r = .bool true) Tryz.call36 rfl rfl (fun w3 hH hf => slSt_c w3 _ _ (x.list) (h.keep (RStr.keep (hf.keepAll (.inr rfl))) (hf.keepAll (.inr rfl))) (h2.keep (RStr.keep (hf.keepAll (.inr rfl))) (hf.keepAll (.inr rfl)))) fun r hr => ?_
 subst hr
 refine j_val rfl (fun _ _ h => r_pick_t rfl rfl h) (jA rfl rfl (j_nil (ej_then (hK2 _ _ _ (CJ.s [(4, _)] ⟨rfl, trivial⟩ (cj_ret (?_)))))))
 exact ej_ret1 Tryz.results60 rfl fun w' hH hf => ⟨rfl, hf⟩

theorem cl2_c (w : World) (cs ds : List Value) (x : PNums) (hR : RNums w cs x) (hR2 : RNums w ds x) : Calls Tryz.prog 62 #[.agg cs.toArray, .agg ds.toArray] w (Ret fun r w' => r = .bool true ∧ Fr 0 [] w w') := by
 obtain ⟨l, rfl, h⟩ := hR
 obtain ⟨l2, rfl, h2⟩ := hR2
 obtain ⟨p, c, rfl, -⟩ := h.open
 obtain ⟨p2, c2, rfl, -⟩ := h2.open
 refine startJ (args := [_, _]) [(0, .agg (List.toArray [_, _])), (1, .agg (List.toArray [_, _]))] 0 [] [] Tryz.func62 rfl Tryz.ntmps62 rfl rfl .nil ?_
 refine cj_seqF fun K1 hK1 => cj_reg ?_
 refine j_boxA (vs := [_, _]) rfl rfl fun b2 => ?_
 refine j_boxA (vs := [_, _]) rfl rfl fun b3 => ?_
 refine jA rfl rfl (j_nil (ej_then (hK1 _ _ _ (CJ.s [(2, _), (3, _)] ⟨rfl, rfl, trivial⟩ (cj_seqF fun K2 hK2 => cj_reg (j_val rfl (fun _ _ h => r_fl (q := 0) (ft := 9) Tryz.runUnderlying99 rfl Tryz.sizeOf9 rfl h) (j_valw rfl (fun a w ha hH hf => r_ldH 1 rfl rfl Tryz.isAgg9 rfl rfl ha hH) (j_val rfl (fun _ _ h => r_fl (q := 0) (ft := 9) Tryz.runUnderlying99 rfl Tryz.sizeOf9 rfl h) (j_valw rfl (fun a w ha hH hf => r_ldH 0 rfl rfl Tryz.isAgg9 rfl rfl ha hH) (j_val rfl (fun _ _ h => r_seql rfl rfl h) ?_))))))))))
 refine j_eqv (u := .bool true) (congrArg Value.bool (by simp)) ?_
 refine jM rfl rfl (j_gt rfl rfl (j_val rfl (fun _ _ h => r_fl (q := 1) (ft := 46) Tryz.runUnderlying99 rfl Tryz.sizeOf46 rfl h) (j_gt rfl rfl (j_valw rfl (fun a w ha hH hf => r_ldH 1 rfl rfl Tryz.isAgg46 rfl rfl ha hH) (j_gt rfl rfl (j_val rfl (fun _ _ h => r_fl (q := 1) (ft := 46) Tryz.runUnderlying99 rfl Tryz.sizeOf46 rfl h) (j_gt rfl rfl (j_valw rfl (fun a w ha hH hf => r_ldH 0 rfl rfl Tryz.isAgg46 rfl rfl ha hH) (j_gt rfl rfl ?_)))))))))
 refine j_callQ (φ := fun r => r = .bool true) Tryz.call58 rfl rfl (fun w3 hH hf => slI6_c w3 _ _ (x.list) (h.keep (RInt.keep (hf.keepAll (.inr rfl))) (hf.keepAll (.inr rfl))) (h2.keep (RInt.keep (hf.keepAll (.inr rfl))) (hf.keepAll (.inr rfl)))) fun r hr => ?_
 subst hr
 refine j_val rfl (fun _ _ h => r_pick_t rfl rfl h) (jA rfl rfl (j_nil (ej_then (hK2 _ _ _ (CJ.s [(4, _)] ⟨rfl, trivial⟩ (cj_ret (?_)))))))
 exact ej_ret1 Tryz.results62 rfl fun w' hH hf => ⟨rfl, hf⟩

theorem sfTx_c (w : World) (v u : Value) (xs : List PTexts) (hv : Lay RTexts 2 w v xs) (hu : Lay RTexts 2 w u xs) : Calls Tryz.prog 59 #[v, u, .func (.func 60) #[] #[]] w (Ret fun r w' => r = .bool true ∧ Fr 0 [] w w') := by
 obtain ⟨p, c, rfl, hl, hx⟩ := hv.open
 obtain ⟨q, c2, rfl, -, hy⟩ := hu.open
 refine startJ (args := [_, _, _]) [(0, _), (1, _), (2, _)] 0 [] [] Tryz.func59 rfl Tryz.ntmps59 rfl rfl .nil ?_
 refine cj_seqF fun K1 hK1 => cj_reg (jA rfl rfl (j_nil (ej_then (hK1 _ _ _ (CJ.s [(0, _), (1, _), (2, _)] ⟨rfl, rfl, rfl, trivial⟩ (cj_seqF fun K2 hK2 => cj_seqF fun K3 hK3 => cj_reg (jM rfl rfl (j_val rfl (fun _ _ h => r_len Tryz.runUnderlying47 rfl h) (jM rfl rfl (j_val rfl (fun _ _ h => r_len Tryz.runUnderlying47 rfl h) (j_val rfl (fun _ _ h => r_neq rfl rfl h) ?_)))))))))))
 refine j_eqv (u := .bool false) (congrArg Value.bool (by simp)) ?_
 refine j_nil (ej_then (hK3 _ _ _ (CJ.s [(0, _), (1, _), (2, _), (14, _)] ⟨rfl, rfl, rfl, rfl, trivial⟩ ?_)))
 refine cj_if_f rfl ?_
 refine cj_skip (ej_then (hK2 _ _ _ (CJ.s [(0, _), (1, _), (2, _)] ⟨rfl, rfl, rfl, trivial⟩ (cj_seqF fun K4 hK4 => cj_seqF fun K5 hK5 => cj_reg (jM rfl rfl (j_val rfl (fun _ _ h => r_len Tryz.runUnderlying47 rfl h) (jM rfl rfl (j_nil (ej_then (hK5 _ _ _ (CJ.s [(1, _), (2, _), (15, _), (16, _), (17, _)] ⟨rfl, rfl, rfl, rfl, rfl, trivial⟩ (cj_block ?_))))))))))))
 -- LOOP 0 live [1, 2, 15, 16, 17]
 refine cj_loop (σ := Nat) (fun k => [(1, .slice q xs.length c2), (2, .func (.func 60) #[] #[]), (15, .slice p xs.length c), (16, .int .i64 (xs.length : Nat)), (17, .int .i64 (k : Nat))]) (fun _ => []) (fun k _ => k ≤ xs.length) (fun k => xs.length - k) 0 ⟨rfl, rfl, rfl, rfl, rfl, trivial⟩ (fun w hH hf => ⟨.nil, Nat.zero_le _⟩) ?_
 rintro k w1 hk hf1 hH1 KL hKL
 refine C.begin _ [] hf1 .nil ?_
 refine CJ.s [(1, .slice q xs.length c2), (2, .func (.func 60) #[] #[]), (15, .slice p xs.length c), (16, .int .i64 (xs.length : Nat)), (17, .int .i64 (k : Nat))] ⟨rfl, rfl, rfl, rfl, rfl, trivial⟩ (cj_seqF fun K6 hK6 => cj_reg (j_val rfl (fun _ _ h => r_lss rfl rfl h) (j_nil (ej_then (hK6 _ _ _ (CJ.s [(1, _), (2, _), (15, _), (16, _), (17, _), (18, _)] ⟨rfl, rfl, rfl, rfl, rfl, rfl, trivial⟩ (cj_seqF fun K7 hK7 => ?_)))))))
 refine cj_dec rfl (fun h18 => ?_) (fun h18 => ?_)
 ·have hk' : k < xs.length := by omega
  obtain ⟨b, o, cs, rfl, -, hR, hcell⟩ := hx k xs[k] (List.getElem?_eq_getElem hk')
  obtain ⟨b2, o2, cs2, rfl, -, hR2, hcell2⟩ := hy k xs[k] (List.getElem?_eq_getElem hk')
  have hRk := hR
  have hRk2 := hR2
  obtain ⟨l, rfl, h⟩ := hR
  obtain ⟨l2, rfl, h2⟩ := hR2
  obtain ⟨p1, c1, rfl, -⟩ := h.open
  obtain ⟨p2, c3, rfl, -⟩ := h2.open
  refine cj_skip (ej_then (hK7 _ _ _ (CJ.s [(1, _), (2, _), (15, _), (16, _), (17, _)] ⟨rfl, rfl, rfl, rfl, rfl, trivial⟩ (cj_seqF fun K8 hK8 => cj_block (cj_seqF fun K9 hK9 => cj_reg (jM rfl rfl (j_val rfl (fun _ _ h => r_idx Tryz.runUnderlying47 Tryz.sizeOf96 rfl rfl (by omega) h) (j_valw rfl (fun a w ha hH hf => r_loadA Tryz.isAgg96 Tryz.sizeOf96 rfl rfl (hcell w (hf.keepAll (.inr rfl))) ha) ?_))))))))
  refine j_allocA (zs := [(.string ⟨#[]⟩), (.slice none 0 0)]) Tryz.zeroValue96 rfl fun b8 => ?_
  refine jA rfl rfl ?_
  refine j_storeN (cs' := [_, _]) (H' := [_]) 0 rfl rfl rfl rfl Tryz.sizeOf96 rfl rfl rfl rfl rfl rfl rfl ?_
  refine j_nil (ej_then (hK9 _ _ _ (CJ.s [(1, _), (2, _), (7, _), (8, _), (15, _), (16, _), (17, _)] ⟨rfl, rfl, rfl, rfl, rfl, rfl, rfl, trivial⟩ (cj_seqF fun K10 hK10 => cj_reg (jM rfl rfl (jM rfl rfl (j_val rfl (fun _ _ h => r_idx Tryz.runUnderlying47 Tryz.sizeOf96 rfl rfl (by omega) h) (j_valw rfl (fun a w ha hH hf => r_loadA Tryz.isAgg96 Tryz.sizeOf96 rfl rfl (hcell2 w (hf.keepAll (.inr rfl))) ha) ?_))))))))
  refine j_allocA (zs := [(.string ⟨#[]⟩), (.slice none 0 0)]) Tryz.zeroValue96 rfl fun b9 => ?_
  refine j_storeN (cs' := [_, _]) (H' := [_, _]) 0 rfl rfl rfl rfl Tryz.sizeOf96 rfl rfl rfl rfl rfl rfl rfl ?_
  refine j_nil (ej_then (hK10 _ _ _ (CJ.s [(1, _), (2, _), (8, _), (9, _), (15, _), (16, _), (17, _)] ⟨rfl, rfl, rfl, rfl, rfl, rfl, rfl, trivial⟩ (cj_seqF fun K11 hK11 => cj_reg (jM rfl rfl (j_valw rfl (fun a w ha hH hf => r_ldA (vs := [_, _]) 1 rfl rfl Tryz.isAgg96 Tryz.sizeOf96 rfl rfl rfl ha hH) (j_valw rfl (fun a w ha hH hf => r_ldA (vs := [_, _]) 0 rfl rfl Tryz.isAgg96 Tryz.sizeOf96 rfl rfl rfl ha hH) ?_)))))))
  refine j_callVQ (g := 60) (φ := fun r => r = .bool true) Tryz.call60 rfl rfl rfl (fun v' hH hf => cl1_c v' _ _ xs[k] (RTexts.keep (hf.keepAll (.inr rfl)) _ _ hRk) (RTexts.keep (hf.keepAll (.inr rfl)) _ _ hRk2)) fun r hr => ?_
  subst hr
  refine j_val rfl (fun _ _ h => r_not rfl h) ?_
  refine j_eqv (u := .bool false) rfl ?_
  refine j_nil (ej_then (hK11 _ _ _ (CJ.s [(1, _), (2, _), (15, _), (16, _), (17, _), (30, _)] ⟨rfl, rfl, rfl, rfl, rfl, rfl, trivial⟩ ?_)))
  refine cj_if_f rfl ?_
  refine cj_skip (ej_blk (ej_then (hK8 _ _ _ (CJ.s [(1, _), (2, _), (15, _), (16, _), (17, _)] ⟨rfl, rfl, rfl, rfl, rfl, trivial⟩ (cj_reg (j_val rfl (fun _ _ h => r_inc (by omega) rfl rfl h) (jM rfl rfl (j_nil (ej_then ?_)))))))))
  exact fun w' hH hf => hKL (k + 1) _ w' hk' hf .nil (by omega) ⟨rfl, rfl, rfl, rfl, rfl, trivial⟩
 ·refine cj_exit (ej_then_exit (ej_then_exit (ej_blk_hit (ej_then (hK4 _ _ _ (CJ.s [] trivial (cj_seqF fun K12 hK12 => cj_reg (jA rfl rfl (j_nil (ej_then (hK12 _ _ _ (CJ.s [(6, _)] ⟨rfl, trivial⟩ (cj_ret (?_))))))))))))))
  exact ej_ret1 Tryz.results59 rfl fun w' hH hf => ⟨rfl, hf⟩

theorem sfNu_c (w : World) (v u : Value) (xs : List PNums) (hv : Lay RNums 2 w v xs) (hu : Lay RNums 2 w u xs) : Calls Tryz.prog 61 #[v, u, .func (.func 62) #[] #[]] w (Ret fun r w' => r = .bool true ∧ Fr 0 [] w w') := by
 obtain ⟨p, c, rfl, hl, hx⟩ := hv.open
 obtain ⟨q, c2, rfl, -, hy⟩ := hu.open
 refine startJ (args := [_, _, _]) [(0, _), (1, _), (2, _)] 0 [] [] Tryz.func61 rfl Tryz.ntmps61 rfl rfl .nil ?_
 refine cj_seqF fun K1 hK1 => cj_reg (jA rfl rfl (j_nil (ej_then (hK1 _ _ _ (CJ.s [(0, _), (1, _), (2, _)] ⟨rfl, rfl, rfl, trivial⟩ (cj_seqF fun K2 hK2 => cj_seqF fun K3 hK3 => cj_reg (jM rfl rfl (j_val rfl (fun _ _ h => r_len Tryz.runUnderlying48 rfl h) (jM rfl rfl (j_val rfl (fun _ _ h => r_len Tryz.runUnderlying48 rfl h) (j_val rfl (fun _ _ h => r_neq rfl rfl h) ?_)))))))))))
 refine j_eqv (u := .bool false) (congrArg Value.bool (by simp)) ?_
 refine j_nil (ej_then (hK3 _ _ _ (CJ.s [(0, _), (1, _), (2, _), (14, _)] ⟨rfl, rfl, rfl, rfl, trivial⟩ ?_)))
 refine cj_if_f rfl ?_
 refine cj_skip (ej_then (hK2 _ _ _ (CJ.s [(0, _), (1, _), (2, _)] ⟨rfl, rfl, rfl, trivial⟩ (cj_seqF fun K4 hK4 => cj_seqF fun K5 hK5 => cj_reg (jM rfl rfl (j_val rfl (fun _ _ h => r_len Tryz.runUnderlying48 rfl h) (jM rfl rfl (j_nil (ej_then (hK5 _ _ _ (CJ.s [(1, _), (2, _), (15, _), (16, _), (17, _)] ⟨rfl, rfl, rfl, rfl, rfl, trivial⟩ (cj_block ?_))))))))))))
 -- LOOP 0 live [1, 2, 15, 16, 17]
 refine cj_loop (σ := Nat) (fun k => [(1, .slice q xs.length c2), (2, .func (.func 62) #[] #[]), (15, .slice p xs.length c), (16, .int .i64 (xs.length : Nat)), (17, .int .i64 (k : Nat))]) (fun _ => []) (fun k _ => k ≤ xs.length) (fun k => xs.length - k) 0 ⟨rfl, rfl, rfl, rfl, rfl, trivial⟩ (fun w hH hf => ⟨.nil, Nat.zero_le _⟩) ?_
 rintro k w1 hk hf1 hH1 KL hKL
 refine C.begin _ [] hf1 .nil ?_
 refine CJ.s [(1, .slice q xs.length c2), (2, .func (.func 62) #[] #[]), (15, .slice p xs.length c), (16, .int .i64 (xs.length : Nat)), (17, .int .i64 (k : Nat))] ⟨rfl, rfl, rfl, rfl, rfl, trivial⟩ (cj_seqF fun K6 hK6 => cj_reg (j_val rfl (fun _ _ h => r_lss rfl rfl h) (j_nil (ej_then (hK6 _ _ _ (CJ.s [(1, _), (2, _), (15, _), (16, _), (17, _), (18, _)] ⟨rfl, rfl, rfl, rfl, rfl, rfl, trivial⟩ (cj_seqF fun K7 hK7 => ?_)))))))
 refine cj_dec rfl (fun h18 => ?_) (fun h18 => ?_)
 ·have hk' : k < xs.length := by omega
  obtain ⟨b, o, cs, rfl, -, hR, hcell⟩ := hx k xs[k] (List.getElem?_eq_getElem hk')
  obtain ⟨b2, o2, cs2, rfl, -, hR2, hcell2⟩ := hy k xs[k] (List.getElem?_eq_getElem hk')
  have hRk := hR
  have hRk2 := hR2
  obtain ⟨l, rfl, h⟩ := hR
  obtain ⟨l2, rfl, h2⟩ := hR2
  obtain ⟨p1, c1, rfl, -⟩ := h.open
  obtain ⟨p2, c3, rfl, -⟩ := h2.open
  refine cj_skip (ej_then (hK7 _ _ _ (CJ.s [(1, _), (2, _), (15, _), (16, _), (17, _)] ⟨rfl, rfl, rfl, rfl, rfl, trivial⟩ (cj_seqF fun K8 hK8 => cj_block (cj_seqF fun K9 hK9 => cj_reg (jM rfl rfl (j_val rfl (fun _ _ h => r_idx Tryz.runUnderlying48 Tryz.sizeOf99 rfl rfl (by omega) h) (j_valw rfl (fun a w ha hH hf => r_loadA Tryz.isAgg99 Tryz.sizeOf99 rfl rfl (hcell w (hf.keepAll (.inr rfl))) ha) ?_))))))))
  refine j_allocA (zs := [(.string ⟨#[]⟩), (.slice none 0 0)]) Tryz.zeroValue99 rfl fun b8 => ?_
  refine jA rfl rfl ?_
  refine j_storeN (cs' := [_, _]) (H' := [_]) 0 rfl rfl rfl rfl Tryz.sizeOf99 rfl rfl rfl rfl rfl rfl rfl ?_
  refine j_nil (ej_then (hK9 _ _ _ (CJ.s [(1, _), (2, _), (7, _), (8, _), (15, _), (16, _), (17, _)] ⟨rfl, rfl, rfl, rfl, rfl, rfl, rfl, trivial⟩ (cj_seqF fun K10 hK10 => cj_reg (jM rfl rfl (jM rfl rfl (j_val rfl (fun _ _ h => r_idx Tryz.runUnderlying48 Tryz.sizeOf99 rfl rfl (by omega) h) (j_valw rfl (fun a w ha hH hf => r_loadA Tryz.isAgg99 Tryz.sizeOf99 rfl rfl (hcell2 w (hf.keepAll (.inr rfl))) ha) ?_))))))))
  refine j_allocA (zs := [(.string ⟨#[]⟩), (.slice none 0 0)]) Tryz.zeroValue99 rfl fun b9 => ?_
  refine j_storeN (cs' := [_, _]) (H' := [_, _]) 0 rfl rfl rfl rfl Tryz.sizeOf99 rfl rfl rfl rfl rfl rfl rfl ?_
  refine j_nil (ej_then (hK10 _ _ _ (CJ.s [(1, _), (2, _), (8, _), (9, _), (15, _), (16, _), (17, _)] ⟨rfl, rfl, rfl, rfl, rfl, rfl, rfl, trivial⟩ (cj_seqF fun K11 hK11 => cj_reg (jM rfl rfl (j_valw rfl (fun a w ha hH hf => r_ldA (vs := [_, _]) 1 rfl rfl Tryz.isAgg99 Tryz.sizeOf99 rfl rfl rfl ha hH) (j_valw rfl (fun a w ha hH hf => r_ldA (vs := [_, _]) 0 rfl rfl Tryz.isAgg99 Tryz.sizeOf99 rfl rfl rfl ha hH) ?_)))))))
  refine j_callVQ (g := 62) (φ := fun r => r = .bool true) Tryz.call62 rfl rfl rfl (fun v' hH hf => cl2_c v' _ _ xs[k] (RNums.keep (hf.keepAll (.inr rfl)) _ _ hRk) (RNums.keep (hf.keepAll (.inr rfl)) _ _ hRk2)) fun r hr => ?_
  subst hr
  refine j_val rfl (fun _ _ h => r_not rfl h) ?_
  refine j_eqv (u := .bool false) rfl ?_
  refine j_nil (ej_then (hK11 _ _ _ (CJ.s [(1, _), (2, _), (15, _), (16, _), (17, _), (30, _)] ⟨rfl, rfl, rfl, rfl, rfl, rfl, trivial⟩ ?_)))
  refine cj_if_f rfl ?_
  refine cj_skip (ej_blk (ej_then (hK8 _ _ _ (CJ.s [(1, _), (2, _), (15, _), (16, _), (17, _)] ⟨rfl, rfl, rfl, rfl, rfl, trivial⟩ (cj_reg (j_val rfl (fun _ _ h => r_inc (by omega) rfl rfl h) (jM rfl rfl (j_nil (ej_then ?_)))))))))
  exact fun w' hH hf => hKL (k + 1) _ w' hk' hf .nil (by omega) ⟨rfl, rfl, rfl, rfl, rfl, trivial⟩
 ·refine cj_exit (ej_then_exit (ej_then_exit (ej_blk_hit (ej_then (hK4 _ _ _ (CJ.s [] trivial (cj_seqF fun K12 hK12 => cj_reg (jA rfl rfl (j_nil (ej_then (hK12 _ _ _ (CJ.s [(6, _)] ⟨rfl, trivial⟩ (cj_ret (?_))))))))))))))
  exact ej_ret1 Tryz.results61 rfl fun w' hH hf => ⟨rfl, hf⟩

theorem sameLoc_c (w : World) (cs ds : List Value) (x : PLoc) (hR : RLoc w cs x) (hR2 : RLoc w ds x) : Calls Tryz.prog 34 #[.agg cs.toArray, .agg ds.toArray] w (Ret fun r w' => r = .bool true ∧ Fr 0 [] w w') := by
 obtain ⟨l, rfl, -, -, -, h⟩ := hR
 obtain ⟨l2, rfl, -, -, -, h2⟩ := hR2
 obtain ⟨p, c, rfl, -⟩ := h.open
 obtain ⟨p2, c2, rfl, -⟩ := h2.open
 refine startJ (args := [_, _]) [(0, .agg (List.toArray [_, _, _, _])), (1, .agg (List.toArray [_, _, _, _]))] 0 [] [] Tryz.func34 rfl Tryz.ntmps34 rfl rfl .nil ?_
 refine cj_seqF fun K1 hK1 => cj_reg ?_
 refine j_boxA (vs := [_, _, _, _]) rfl rfl fun b2 => ?_
 refine j_boxA (vs := [_, _, _, _]) rfl rfl fun b3 => ?_
 refine jA rfl rfl (j_nil (ej_then (hK1 _ _ _ (CJ.s [(2, _), (3, _)] ⟨rfl, rfl, trivial⟩ (cj_seqF fun K2 hK2 => cj_reg (j_val rfl (fun _ _ h => r_fl (q := 0) (ft := 59) Tryz.runUnderlying76 rfl Tryz.sizeOf59 rfl h) (j_valw rfl (fun a w ha hH hf => r_ldH 1 rfl rfl Tryz.isAgg59 rfl rfl ha hH) (j_val rfl (fun _ _ h => r_fl (q := 0) (ft := 59) Tryz.runUnderlying76 rfl Tryz.sizeOf59 rfl h) (j_valw rfl (fun a w ha hH hf => r_ldH 0 rfl rfl Tryz.isAgg59 rfl rfl ha hH) (j_val rfl (fun _ _ h => r_eql rfl rfl h) ?_))))))))))
 refine j_eqv (u := .bool true) (congrArg Value.bool (by simp)) ?_
 refine jM rfl rfl (j_gt rfl rfl (j_val rfl (fun _ _ h => r_fl (q := 1) (ft := 3) Tryz.runUnderlying76 rfl Tryz.sizeOf3 rfl h) (j_gt rfl rfl (j_valw rfl (fun a w ha hH hf => r_ldH 1 rfl rfl Tryz.isAgg3 rfl rfl ha hH) (j_gt rfl rfl (j_val rfl (fun _ _ h => r_fl (q := 1) (ft := 3) Tryz.runUnderlying76 rfl Tryz.sizeOf3 rfl h) (j_gt rfl rfl (j_valw rfl (fun a w ha hH hf => r_ldH 0 rfl rfl Tryz.isAgg3 rfl rfl ha hH) (j_gt rfl rfl (j_val rfl (fun _ _ h => r_eql rfl rfl h) ?_))))))))))
 refine j_eqv (u := .bool true) (congrArg Value.bool (by simp)) ?_
 refine j_val rfl (fun _ _ h => r_pick_t rfl rfl h) (jM rfl rfl (j_gt rfl rfl (j_val rfl (fun _ _ h => r_fl (q := 2) (ft := 59) Tryz.runUnderlying76 rfl Tryz.sizeOf59 rfl h) (j_gt rfl rfl (j_valw rfl (fun a w ha hH hf => r_ldH 1 rfl rfl Tryz.isAgg59 rfl rfl ha hH) (j_gt rfl rfl (j_val rfl (fun _ _ h => r_fl (q := 2) (ft := 59) Tryz.runUnderlying76 rfl Tryz.sizeOf59 rfl h) (j_gt rfl rfl (j_valw rfl (fun a w ha hH hf => r_ldH 0 rfl rfl Tryz.isAgg59 rfl rfl ha hH) (j_gt rfl rfl (j_val rfl (fun _ _ h => r_eql rfl rfl h) ?_)))))))))))
 refine j_eqv (u := .bool true) (congrArg Value.bool (by simp)) ?_
 refine j_val rfl (fun _ _ h => r_pick_t rfl rfl h) (jM rfl rfl (j_gt rfl rfl (j_val rfl (fun _ _ h => r_fl (q := 3) (ft := 74) Tryz.runUnderlying76 rfl Tryz.sizeOf74 rfl h) (j_gt rfl rfl (j_valw rfl (fun a w ha hH hf => r_ldH 1 rfl rfl Tryz.isAgg74 rfl rfl ha hH) (j_gt rfl rfl (j_val rfl (fun _ _ h => r_fl (q := 3) (ft := 74) Tryz.runUnderlying76 rfl Tryz.sizeOf74 rfl h) (j_gt rfl rfl (j_valw rfl (fun a w ha hH hf => r_ldH 0 rfl rfl Tryz.isAgg74 rfl rfl ha hH) (j_gt rfl rfl ?_))))))))))
 refine j_callQ (φ := fun r => r = .bool true) Tryz.call63 rfl rfl (fun w3 hH hf => slLn_c w3 _ _ (x.lines) (h.keep (RLine.keep (hf.keepAll (.inr rfl))) (hf.keepAll (.inr rfl))) (h2.keep (RLine.keep (hf.keepAll (.inr rfl))) (hf.keepAll (.inr rfl)))) fun r hr => ?_
 subst hr
 refine j_val rfl (fun _ _ h => r_pick_t rfl rfl h) (jA rfl rfl (j_nil (ej_then (hK2 _ _ _ (CJ.s [(4, _)] ⟨rfl, trivial⟩ (cj_ret (?_)))))))
 exact ej_ret1 Tryz.results34 rfl fun w' hH hf => ⟨rfl, hf⟩

theorem sfLc_c (w : World) (v u : Value) (xs : List PLoc) (hv : Lay RLoc 4 w v xs) (hu : Lay RLoc 4 w u xs) : Calls Tryz.prog 33 #[v, u, .func (.func 34) #[] #[]] w (Ret fun r w' => r = .bool true ∧ Fr 0 [] w w') := by
 obtain ⟨p, c, rfl, hl, hx⟩ := hv.open
 obtain ⟨q, c2, rfl, -, hy⟩ := hu.open
 refine startJ (args := [_, _, _]) [(0, _), (1, _), (2, _)] 0 [] [] Tryz.func33 rfl Tryz.ntmps33 rfl rfl .nil ?_
 refine cj_seqF fun K1 hK1 => cj_reg (jA rfl rfl (j_nil (ej_then (hK1 _ _ _ (CJ.s [(0, _), (1, _), (2, _)] ⟨rfl, rfl, rfl, trivial⟩ (cj_seqF fun K2 hK2 => cj_seqF fun K3 hK3 => cj_reg (jM rfl rfl (j_val rfl (fun _ _ h => r_len Tryz.runUnderlying25 rfl h) (jM rfl rfl (j_val rfl (fun _ _ h => r_len Tryz.runUnderlying25 rfl h) (j_val rfl (fun _ _ h => r_neq rfl rfl h) ?_)))))))))))
 refine j_eqv (u := .bool false) (congrArg Value.bool (by simp)) ?_
 refine j_nil (ej_then (hK3 _ _ _ (CJ.s [(0, _), (1, _), (2, _), (14, _)] ⟨rfl, rfl, rfl, rfl, trivial⟩ ?_)))
 refine cj_if_f rfl ?_
 refine cj_skip (ej_then (hK2 _ _ _ (CJ.s [(0, _), (1, _), (2, _)] ⟨rfl, rfl, rfl, trivial⟩ (cj_seqF fun K4 hK4 => cj_seqF fun K5 hK5 => cj_reg (jM rfl rfl (j_val rfl (fun _ _ h => r_len Tryz.runUnderlying25 rfl h) (jM rfl rfl (j_nil (ej_then (hK5 _ _ _ (CJ.s [(1, _), (2, _), (15, _), (16, _), (17, _)] ⟨rfl, rfl, rfl, rfl, rfl, trivial⟩ (cj_block ?_))))))))))))
 -- LOOP 0 live [1, 2, 15, 16, 17]
 refine cj_loop (σ := Nat) (fun k => [(1, .slice q xs.length c2), (2, .func (.func 34) #[] #[]), (15, .slice p xs.length c), (16, .int .i64 (xs.length : Nat)), (17, .int .i64 (k : Nat))]) (fun _ => []) (fun k _ => k ≤ xs.length) (fun k => xs.length - k) 0 ⟨rfl, rfl, rfl, rfl, rfl, trivial⟩ (fun w hH hf => ⟨.nil, Nat.zero_le _⟩) ?_
 rintro k w1 hk hf1 hH1 KL hKL
 refine C.begin _ [] hf1 .nil ?_
 refine CJ.s [(1, .slice q xs.length c2), (2, .func (.func 34) #[] #[]), (15, .slice p xs.length c), (16, .int .i64 (xs.length : Nat)), (17, .int .i64 (k : Nat))] ⟨rfl, rfl, rfl, rfl, rfl, trivial⟩ (cj_seqF fun K6 hK6 => cj_reg (j_val rfl (fun _ _ h => r_lss rfl rfl h) (j_nil (ej_then (hK6 _ _ _ (CJ.s [(1, _), (2, _), (15, _), (16, _), (17, _), (18, _)] ⟨rfl, rfl, rfl, rfl, rfl, rfl, trivial⟩ (cj_seqF fun K7 hK7 => ?_)))))))
 refine cj_dec rfl (fun h18 => ?_) (fun h18 => ?_)
 ·have hk' : k < xs.length := by omega
  obtain ⟨b, o, cs, rfl, -, hR, hcell⟩ := hx k xs[k] (List.getElem?_eq_getElem hk')
  obtain ⟨b2, o2, cs2, rfl, -, hR2, hcell2⟩ := hy k xs[k] (List.getElem?_eq_getElem hk')
  have hRk := hR
  have hRk2 := hR2
  obtain ⟨l, rfl, -, -, -, h⟩ := hR
  obtain ⟨l2, rfl, -, -, -, h2⟩ := hR2
  obtain ⟨p1, c1, rfl, -⟩ := h.open
  obtain ⟨p2, c3, rfl, -⟩ := h2.open
  refine cj_skip (ej_then (hK7 _ _ _ (CJ.s [(1, _), (2, _), (15, _), (16, _), (17, _)] ⟨rfl, rfl, rfl, rfl, rfl, trivial⟩ (cj_seqF fun K8 hK8 => cj_block (cj_seqF fun K9 hK9 => cj_reg (jM rfl rfl (j_val rfl (fun _ _ h => r_idx Tryz.runUnderlying25 Tryz.sizeOf76 rfl rfl (by omega) h) (j_valw rfl (fun a w ha hH hf => r_loadA Tryz.isAgg76 Tryz.sizeOf76 rfl rfl (hcell w (hf.keepAll (.inr rfl))) ha) ?_))))))))
  refine j_allocA (zs := [(.int .u64 0), (.int .i64 0), (.int .u64 0), (.slice none 0 0)]) Tryz.zeroValue76 rfl fun b8 => ?_
  refine jA rfl rfl ?_
  refine j_storeN (cs' := [_, _, _, _]) (H' := [_]) 0 rfl rfl rfl rfl Tryz.sizeOf76 rfl rfl rfl rfl rfl rfl rfl ?_
  refine j_nil (ej_then (hK9 _ _ _ (CJ.s [(1, _), (2, _), (7, _), (8, _), (15, _), (16, _), (17, _)] ⟨rfl, rfl, rfl, rfl, rfl, rfl, rfl, trivial⟩ (cj_seqF fun K10 hK10 => cj_reg (jM rfl rfl (jM rfl rfl (j_val rfl (fun _ _ h => r_idx Tryz.runUnderlying25 Tryz.sizeOf76 rfl rfl (by omega) h) (j_valw rfl (fun a w ha hH hf => r_loadA Tryz.isAgg76 Tryz.sizeOf76 rfl rfl (hcell2 w (hf.keepAll (.inr rfl))) ha) ?_))))))))
  refine j_allocA (zs := [(.int .u64 0), (.int .i64 0), (.int .u64 0), (.slice none 0 0)]) Tryz.zeroValue76 rfl fun b9 => ?_
  refine j_storeN (cs' := [_, _, _, _]) (H' := [_, _]) 0 rfl rfl rfl rfl Tryz.sizeOf76 rfl rfl rfl rfl rfl rfl rfl ?_
  refine j_nil (ej_then (hK10 _ _ _ (CJ.s [(1, _), (2, _), (8, _), (9, _), (15, _), (16, _), (17, _)] ⟨rfl, rfl, rfl, rfl, rfl, rfl, rfl, trivial⟩ (cj_seqF fun K11 hK11 => cj_reg (jM rfl rfl (j_valw rfl (fun a w ha hH hf => r_ldA (vs := [_, _, _, _]) 1 rfl rfl Tryz.isAgg76 Tryz.sizeOf76 rfl rfl rfl ha hH) (j_valw rfl (fun a w ha hH hf => r_ldA (vs := [_, _, _, _]) 0 rfl rfl Tryz.isAgg76 Tryz.sizeOf76 rfl rfl rfl ha hH) ?_)))))))
  refine j_callVQ (g := 34) (φ := fun r => r = .bool true) Tryz.call34 rfl rfl rfl (fun v' hH hf => sameLoc_c v' _ _ xs[k] (RLoc.keep (hf.keepAll (.inr rfl)) _ _ hRk) (RLoc.keep (hf.keepAll (.inr rfl)) _ _ hRk2)) fun r hr => ?_
  subst hr
  refine j_val rfl (fun _ _ h => r_not rfl h) ?_
  refine j_eqv (u := .bool false) rfl ?_
  refine j_nil (ej_then (hK11 _ _ _ (CJ.s [(1, _), (2, _), (15, _), (16, _), (17, _), (30, _)] ⟨rfl, rfl, rfl, rfl, rfl, rfl, trivial⟩ ?_)))
  refine cj_if_f rfl ?_
  refine cj_skip (ej_blk (ej_then (hK8 _ _ _ (CJ.s [(1, _), (2, _), (15, _), (16, _), (17, _)] ⟨rfl, rfl, rfl, rfl, rfl, trivial⟩ (cj_reg (j_val rfl (fun _ _ h => r_inc (by omega) rfl rfl h) (jM rfl rfl (j_nil (ej_then ?_)))))))))
  exact fun w' hH hf => hKL (k + 1) _ w' hk' hf .nil (by omega) ⟨rfl, rfl, rfl, rfl, rfl, trivial⟩
 ·refine cj_exit (ej_then_exit (ej_then_exit (ej_blk_hit (ej_then (hK4 _ _ _ (CJ.s [] trivial (cj_seqF fun K12 hK12 => cj_reg (jA rfl rfl (j_nil (ej_then (hK12 _ _ _ (CJ.s [(6, _)] ⟨rfl, trivial⟩ (cj_ret (?_))))))))))))))
  exact ej_ret1 Tryz.results33 rfl fun w' hH hf => ⟨rfl, hf⟩

theorem sameSam_c (w : World) (cs ds : List Value) (x : PSample) (hR : RSample w cs x) (hR2 : RSample w ds x) : Calls Tryz.prog 31 #[.agg cs.toArray, .agg ds.toArray] w (Ret fun r w' => r = .bool true ∧ Fr 0 [] w w') := by
 obtain ⟨a1, b1, t1, u1, rfl, ha, hb, ht, hu1⟩ := hR
 obtain ⟨a2, b2, t2, u2, rfl, ha2, hb2, ht2, hu2⟩ := hR2
 obtain ⟨pa, ca, rfl, -⟩ := ha.open
 obtain ⟨pb, cb, rfl, -⟩ := hb.open
 obtain ⟨pt, ct, rfl, -⟩ := ht.open
 obtain ⟨pu1, cu1, rfl, -⟩ := hu1.open
 obtain ⟨pa2, ca2, rfl, -⟩ := ha2.open
 obtain ⟨pb2, cb2, rfl, -⟩ := hb2.open
 obtain ⟨pt2, ct2, rfl, -⟩ := ht2.open
 obtain ⟨pu2, cu2, rfl, -⟩ := hu2.open
 refine startJ (args := [_, _]) [(0, .agg (List.toArray [_, _, _, _])), (1, .agg (List.toArray [_, _, _, _]))] 0 [] [] Tryz.func31 rfl Tryz.ntmps31 rfl rfl .nil ?_
 refine cj_seqF fun K1 hK1 => cj_reg ?_
 refine j_boxA (vs := [_, _, _, _]) rfl rfl fun b2 => ?_
 refine j_boxA (vs := [_, _, _, _]) rfl rfl fun b3 => ?_
 refine jA rfl rfl (j_nil (ej_then (hK1 _ _ _ (CJ.s [(2, _), (3, _)] ⟨rfl, rfl, trivial⟩ (cj_seqF fun K2 hK2 => cj_reg (j_val rfl (fun _ _ h => r_fl (q := 0) (ft := 45) Tryz.runUnderlying50 rfl Tryz.sizeOf45 rfl h) (j_valw rfl (fun a w ha hH hf => r_ldH 1 rfl rfl Tryz.isAgg45 rfl rfl ha hH) (j_val rfl (fun _ _ h => r_fl (q := 0) (ft := 45) Tryz.runUnderlying50 rfl Tryz.sizeOf45 rfl h) (j_valw rfl (fun a w ha hH hf => r_ldH 0 rfl rfl Tryz.isAgg45 rfl rfl ha hH) ?_)))))))))
 refine j_callQ (φ := fun r => r = .bool true) Tryz.call57 rfl rfl (fun w3 hH hf => slIn_c w3 _ _ (x.stack) (ha.keep (RInt.keep (hf.keepAll (.inr rfl))) (hf.keepAll (.inr rfl))) (ha2.keep (RInt.keep (hf.keepAll (.inr rfl))) (hf.keepAll (.inr rfl)))) fun r hr => ?_
 subst hr
 refine jM rfl rfl (j_gt rfl rfl (j_val rfl (fun _ _ h => r_fl (q := 1) (ft := 46) Tryz.runUnderlying50 rfl Tryz.sizeOf46 rfl h) (j_gt rfl rfl (j_valw rfl (fun a w ha hH hf => r_ldH 1 rfl rfl Tryz.isAgg46 rfl rfl ha hH) (j_gt rfl rfl (j_val rfl (fun _ _ h => r_fl (q := 1) (ft := 46) Tryz.runUnderlying50 rfl Tryz.sizeOf46 rfl h) (j_gt rfl rfl (j_valw rfl (fun a w ha hH hf => r_ldH 0 rfl rfl Tryz.isAgg46 rfl rfl ha hH) (j_gt rfl rfl ?_)))))))))
 refine j_callQ (φ := fun r => r = .bool true) Tryz.call58 rfl rfl (fun w3 hH hf => slI6_c w3 _ _ (x.values) (hb.keep (RInt.keep (hf.keepAll (.inr rfl))) (hf.keepAll (.inr rfl))) (hb2.keep (RInt.keep (hf.keepAll (.inr rfl))) (hf.keepAll (.inr rfl)))) fun r hr => ?_
 subst hr
 refine j_val rfl (fun _ _ h => r_pick_t rfl rfl h) (jM rfl rfl (j_gt rfl rfl (j_val rfl (fun _ _ h => r_fl (q := 2) (ft := 47) Tryz.runUnderlying50 rfl Tryz.sizeOf47 rfl h) (j_gt rfl rfl (j_valw rfl (fun a w ha hH hf => r_ldH 1 rfl rfl Tryz.isAgg47 rfl rfl ha hH) (j_gt rfl rfl (j_val rfl (fun _ _ h => r_fl (q := 2) (ft := 47) Tryz.runUnderlying50 rfl Tryz.sizeOf47 rfl h) (j_gt rfl rfl (j_valw rfl (fun a w ha hH hf => r_ldH 0 rfl rfl Tryz.isAgg47 rfl rfl ha hH) (j_gt rfl rfl ?_))))))))))
 refine j_callQ (φ := fun r => r = .bool true) Tryz.call59 rfl rfl (fun w3 hH hf => sfTx_c w3 _ _ (x.texts) (ht.keep (RTexts.keep (hf.keepAll (.inr rfl))) (hf.keepAll (.inr rfl))) (ht2.keep (RTexts.keep (hf.keepAll (.inr rfl))) (hf.keepAll (.inr rfl)))) fun r hr => ?_
 subst hr
 refine j_val rfl (fun _ _ h => r_pick_t rfl rfl h) (jM rfl rfl (j_gt rfl rfl (j_val rfl (fun _ _ h => r_fl (q := 3) (ft := 48) Tryz.runUnderlying50 rfl Tryz.sizeOf48 rfl h) (j_gt rfl rfl (j_valw rfl (fun a w ha hH hf => r_ldH 1 rfl rfl Tryz.isAgg48 rfl rfl ha hH) (j_gt rfl rfl (j_val rfl (fun _ _ h => r_fl (q := 3) (ft := 48) Tryz.runUnderlying50 rfl Tryz.sizeOf48 rfl h) (j_gt rfl rfl (j_valw rfl (fun a w ha hH hf => r_ldH 0 rfl rfl Tryz.isAgg48 rfl rfl ha hH) (j_gt rfl rfl ?_))))))))))
 refine j_callQ (φ := fun r => r = .bool true) Tryz.call61 rfl rfl (fun w3 hH hf => sfNu_c w3 _ _ (x.nums) (hu1.keep (RNums.keep (hf.keepAll (.inr rfl))) (hf.keepAll (.inr rfl))) (hu2.keep (RNums.keep (hf.keepAll (.inr rfl))) (hf.keepAll (.inr rfl)))) fun r hr => ?_
 subst hr
 refine j_val rfl (fun _ _ h => r_pick_t rfl rfl h) (jA rfl rfl (j_nil (ej_then (hK2 _ _ _ (CJ.s [(4, _)] ⟨rfl, trivial⟩ (cj_ret (?_)))))))
 exact ej_ret1 Tryz.results31 rfl fun w' hH hf => ⟨rfl, hf⟩

theorem sfSm_c (w : World) (v u : Value) (xs : List PSample) (hv : Lay RSample 4 w v xs) (hu : Lay RSample 4 w u xs) : Calls Tryz.prog 30 #[v, u, .func (.func 31) #[] #[]] w (Ret fun r w' => r = .bool true ∧ Fr 0 [] w w') := by
 obtain ⟨p, c, rfl, hl, hx⟩ := hv.open
 obtain ⟨q, c2, rfl, -, hy⟩ := hu.open
 refine startJ (args := [_, _, _]) [(0, _), (1, _), (2, _)] 0 [] [] Tryz.func30 rfl Tryz.ntmps30 rfl rfl .nil ?_
 refine cj_seqF fun K1 hK1 => cj_reg (jA rfl rfl (j_nil (ej_then (hK1 _ _ _ (CJ.s [(0, _), (1, _), (2, _)] ⟨rfl, rfl, rfl, trivial⟩ (cj_seqF fun K2 hK2 => cj_seqF fun K3 hK3 => cj_reg (jM rfl rfl (j_val rfl (fun _ _ h => r_len Tryz.runUnderlying23 rfl h) (jM rfl rfl (j_val rfl (fun _ _ h => r_len Tryz.runUnderlying23 rfl h) (j_val rfl (fun _ _ h => r_neq rfl rfl h) ?_)))))))))))
 refine j_eqv (u := .bool false) (congrArg Value.bool (by simp)) ?_
 refine j_nil (ej_then (hK3 _ _ _ (CJ.s [(0, _), (1, _), (2, _), (14, _)] ⟨rfl, rfl, rfl, rfl, trivial⟩ ?_)))
 refine cj_if_f rfl ?_
 refine cj_skip (ej_then (hK2 _ _ _ (CJ.s [(0, _), (1, _), (2, _)] ⟨rfl, rfl, rfl, trivial⟩ (cj_seqF fun K4 hK4 => cj_seqF fun K5 hK5 => cj_reg (jM rfl rfl (j_val rfl (fun _ _ h => r_len Tryz.runUnderlying23 rfl h) (jM rfl rfl (j_nil (ej_then (hK5 _ _ _ (CJ.s [(1, _), (2, _), (15, _), (16, _), (17, _)] ⟨rfl, rfl, rfl, rfl, rfl, trivial⟩ (cj_block ?_))))))))))))
 -- LOOP 0 live [1, 2, 15, 16, 17]
 refine cj_loop (σ := Nat) (fun k => [(1, .slice q xs.length c2), (2, .func (.func 31) #[] #[]), (15, .slice p xs.length c), (16, .int .i64 (xs.length : Nat)), (17, .int .i64 (k : Nat))]) (fun _ => []) (fun k _ => k ≤ xs.length) (fun k => xs.length - k) 0 ⟨rfl, rfl, rfl, rfl, rfl, trivial⟩ (fun w hH hf => ⟨.nil, Nat.zero_le _⟩) ?_
 rintro k w1 hk hf1 hH1 KL hKL
 refine C.begin _ [] hf1 .nil ?_
 refine CJ.s [(1, .slice q xs.length c2), (2, .func (.func 31) #[] #[]), (15, .slice p xs.length c), (16, .int .i64 (xs.length : Nat)), (17, .int .i64 (k : Nat))] ⟨rfl, rfl, rfl, rfl, rfl, trivial⟩ (cj_seqF fun K6 hK6 => cj_reg (j_val rfl (fun _ _ h => r_lss rfl rfl h) (j_nil (ej_then (hK6 _ _ _ (CJ.s [(1, _), (2, _), (15, _), (16, _), (17, _), (18, _)] ⟨rfl, rfl, rfl, rfl, rfl, rfl, trivial⟩ (cj_seqF fun K7 hK7 => ?_)))))))
 refine cj_dec rfl (fun h18 => ?_) (fun h18 => ?_)
 ·have hk' : k < xs.length := by omega
  obtain ⟨b, o, cs, rfl, -, hR, hcell⟩ := hx k xs[k] (List.getElem?_eq_getElem hk')
  obtain ⟨b2, o2, cs2, rfl, -, hR2, hcell2⟩ := hy k xs[k] (List.getElem?_eq_getElem hk')
  have hRk := hR
  have hRk2 := hR2
  obtain ⟨q1, q2, q3, q4, rfl, hq1, hq2, hq3, hq4⟩ := hR
  obtain ⟨r1, r2, r3, r4, rfl, hr1, hr2, hr3, hr4⟩ := hR2
  obtain ⟨pq1, cq1, rfl, -⟩ := hq1.open
  obtain ⟨pq2, cq2, rfl, -⟩ := hq2.open
  obtain ⟨pq3, cq3, rfl, -⟩ := hq3.open
  obtain ⟨pq4, cq4, rfl, -⟩ := hq4.open
  obtain ⟨pr1, cr1, rfl, -⟩ := hr1.open
  obtain ⟨pr2, cr2, rfl, -⟩ := hr2.open
  obtain ⟨pr3, cr3, rfl, -⟩ := hr3.open
  obtain ⟨pr4, cr4, rfl, -⟩ := hr4.open
  refine cj_skip (ej_then (hK7 _ _ _ (CJ.s [(1, _), (2, _), (15, _), (16, _), (17, _)] ⟨rfl, rfl, rfl, rfl, rfl, trivial⟩ (cj_seqF fun K8 hK8 => cj_block (cj_seqF fun K9 hK9 => cj_reg (jM rfl rfl (j_val rfl (fun _ _ h => r_idx Tryz.runUnderlying23 Tryz.sizeOf50 rfl rfl (by omega) h) (j_valw rfl (fun a w ha hH hf => r_loadA Tryz.isAgg50 Tryz.sizeOf50 rfl rfl (hcell w (hf.keepAll (.inr rfl))) ha) ?_))))))))
  refine j_allocA (zs := [(.slice none 0 0), (.slice none 0 0), (.slice none 0 0), (.slice none 0 0)]) Tryz.zeroValue50 rfl fun b8 => ?_
  refine jA rfl rfl ?_
  refine j_storeN (cs' := [_, _, _, _]) (H' := [_]) 0 rfl rfl rfl rfl Tryz.sizeOf50 rfl rfl rfl rfl rfl rfl rfl ?_
  refine j_nil (ej_then (hK9 _ _ _ (CJ.s [(1, _), (2, _), (7, _), (8, _), (15, _), (16, _), (17, _)] ⟨rfl, rfl, rfl, rfl, rfl, rfl, rfl, trivial⟩ (cj_seqF fun K10 hK10 => cj_reg (jM rfl rfl (jM rfl rfl (j_val rfl (fun _ _ h => r_idx Tryz.runUnderlying23 Tryz.sizeOf50 rfl rfl (by omega) h) (j_valw rfl (fun a w ha hH hf => r_loadA Tryz.isAgg50 Tryz.sizeOf50 rfl rfl (hcell2 w (hf.keepAll (.inr rfl))) ha) ?_))))))))
  refine j_allocA (zs := [(.slice none 0 0), (.slice none 0 0), (.slice none 0 0), (.slice none 0 0)]) Tryz.zeroValue50 rfl fun b9 => ?_
  refine j_storeN (cs' := [_, _, _, _]) (H' := [_, _]) 0 rfl rfl rfl rfl Tryz.sizeOf50 rfl rfl rfl rfl rfl rfl rfl ?_
  refine j_nil (ej_then (hK10 _ _ _ (CJ.s [(1, _), (2, _), (8, _), (9, _), (15, _), (16, _), (17, _)] ⟨rfl, rfl, rfl, rfl, rfl, rfl, rfl, trivial⟩ (cj_seqF fun K11 hK11 => cj_reg (jM rfl rfl (j_valw rfl (fun a w ha hH hf => r_ldA (vs := [_, _, _, _]) 1 rfl rfl Tryz.isAgg50 Tryz.sizeOf50 rfl rfl rfl ha hH) (j_valw rfl (fun a w ha hH hf => r_ldA (vs := [_, _, _, _]) 0 rfl rfl Tryz.isAgg50 Tryz.sizeOf50 rfl rfl rfl ha hH) ?_)))))))
  refine j_callVQ (g := 31) (φ := fun r => r = .bool true) Tryz.call31 rfl rfl rfl (fun v' hH hf => sameSam_c v' _ _ xs[k] (RSample.keep (hf.keepAll (.inr rfl)) _ _ hRk) (RSample.keep (hf.keepAll (.inr rfl)) _ _ hRk2)) fun r hr => ?_
  subst hr
  refine j_val rfl (fun _ _ h => r_not rfl h) ?_
  refine j_eqv (u := .bool false) rfl ?_
  refine j_nil (ej_then (hK11 _ _ _ (CJ.s [(1, _), (2, _), (15, _), (16, _), (17, _), (30, _)] ⟨rfl, rfl, rfl, rfl, rfl, rfl, trivial⟩ ?_)))
  refine cj_if_f rfl ?_
  refine cj_skip (ej_blk (ej_then (hK8 _ _ _ (CJ.s [(1, _), (2, _), (15, _), (16, _), (17, _)] ⟨rfl, rfl, rfl, rfl, rfl, trivial⟩ (cj_reg (j_val rfl (fun _ _ h => r_inc (by omega) rfl rfl h) (jM rfl rfl (j_nil (ej_then ?_)))))))))
  exact fun w' hH hf => hKL (k + 1) _ w' hk' hf .nil (by omega) ⟨rfl, rfl, rfl, rfl, rfl, trivial⟩
 ·refine cj_exit (ej_then_exit (ej_then_exit (ej_blk_hit (ej_then (hK4 _ _ _ (CJ.s [] trivial (cj_seqF fun K12 hK12 => cj_reg (jA rfl rfl (j_nil (ej_then (hK12 _ _ _ (CJ.s [(6, _)] ⟨rfl, trivial⟩ (cj_ret (?_))))))))))))))
  exact ej_ret1 Tryz.results30 rfl fun w' hH hf => ⟨rfl, hf⟩

theorem same_c (w : World) (cs ds : List Value) (x : PProf) (hR : RProf w cs x) (hR2 : RProf w ds x) : Calls Tryz.prog 9 #[.agg cs.toArray, .agg ds.toArray] w (Ret fun r w' => r = .bool true ∧ Fr 0 [] w w') := by
 obtain ⟨a, s, m, l, f, cm, rfl, ha, hs, hm, hl, hf0, hcm, -⟩ := hR
 obtain ⟨a2, s2, m2, l2, f2, cm2, rfl, ha2, hs2, hm2, hl2, hf2, hcm2, -⟩ := hR2
 obtain ⟨pa, ca, rfl, -⟩ := ha.open
 obtain ⟨ps, cs, rfl, -⟩ := hs.open
 obtain ⟨pm, cm, rfl, -⟩ := hm.open
 obtain ⟨pl, cl, rfl, -⟩ := hl.open
 obtain ⟨pf0, cf0, rfl, -⟩ := hf0.open
 obtain ⟨pcm, ccm, rfl, -⟩ := hcm.open
 obtain ⟨pa2, ca2, rfl, -⟩ := ha2.open
 obtain ⟨ps2, cs2, rfl, -⟩ := hs2.open
 obtain ⟨pm2, cm2, rfl, -⟩ := hm2.open
 obtain ⟨pl2, cl2, rfl, -⟩ := hl2.open
 obtain ⟨pf2, cf2, rfl, -⟩ := hf2.open
 obtain ⟨pcm2, ccm2, rfl, -⟩ := hcm2.open
 refine startJ (args := [_, _]) [(0, .agg (List.toArray [_, _, _, _, _, _, _, _, _, _, _, _, _, _])), (1, .agg (List.toArray [_, _, _, _, _, _, _, _, _, _, _, _, _, _]))] 0 [] [] Tryz.func9 rfl Tryz.ntmps9 rfl rfl .nil ?_
 refine cj_seqF fun K1 hK1 => cj_reg ?_
 refine j_boxA (vs := [_, _, _, _, _, _, _, _, _, _, _, _, _, _]) rfl rfl fun b2 => ?_
 refine j_boxA (vs := [_, _, _, _, _, _, _, _, _, _, _, _, _, _]) rfl rfl fun b3 => ?_
 refine jA rfl rfl (j_nil (ej_then (hK1 _ _ _ (CJ.s [(2, _), (3, _)] ⟨rfl, rfl, trivial⟩ (cj_seqF fun K2 hK2 => cj_reg (j_val rfl (fun _ _ h => r_fl (q := 0) (ft := 22) Tryz.runUnderlying31 rfl Tryz.sizeOf22 rfl h) (j_valw rfl (fun a w ha hH hf => r_ldH 1 rfl rfl Tryz.isAgg22 rfl rfl ha hH) (j_val rfl (fun _ _ h => r_fl (q := 0) (ft := 22) Tryz.runUnderlying31 rfl Tryz.sizeOf22 rfl h) (j_valw rfl (fun a w ha hH hf => r_ldH 0 rfl rfl Tryz.isAgg22 rfl rfl ha hH) ?_)))))))))
 refine j_callQ (φ := fun r => r = .bool true) Tryz.call29 rfl rfl (fun w3 hH hf => slTy_c w3 _ _ (x.types) (ha.keep (RType.keep (hf.keepAll (.inr rfl))) (hf.keepAll (.inr rfl))) (ha2.keep (RType.keep (hf.keepAll (.inr rfl))) (hf.keepAll (.inr rfl)))) fun r hr => ?_
 subst hr
 refine jM rfl rfl (j_gt rfl rfl (j_val rfl (fun _ _ h => r_fl (q := 1) (ft := 9) Tryz.runUnderlying31 rfl Tryz.sizeOf9 rfl h) (j_gt rfl rfl (j_valw rfl (fun a w ha hH hf => r_ldH 1 rfl rfl Tryz.isAgg9 rfl rfl ha hH) (j_gt rfl rfl (j_val rfl (fun _ _ h => r_fl (q := 1) (ft := 9) Tryz.runUnderlying31 rfl Tryz.sizeOf9 rfl h) (j_gt rfl rfl (j_valw rfl (fun a w ha hH hf => r_ldH 0 rfl rfl Tryz.isAgg9 rfl rfl ha hH) (j_gt rfl rfl (j_val rfl (fun _ _ h => r_seql rfl rfl h) ?_))))))))))
 refine j_eqv (u := .bool true) (congrArg Value.bool (by simp)) ?_
 refine j_val rfl (fun _ _ h => r_pick_t rfl rfl h) (jM rfl rfl (j_gt rfl rfl (j_val rfl (fun _ _ h => r_fl (q := 2) (ft := 23) Tryz.runUnderlying31 rfl Tryz.sizeOf23 rfl h) (j_gt rfl rfl (j_valw rfl (fun a w ha hH hf => r_ldH 1 rfl rfl Tryz.isAgg23 rfl rfl ha hH) (j_gt rfl rfl (j_val rfl (fun _ _ h => r_fl (q := 2) (ft := 23) Tryz.runUnderlying31 rfl Tryz.sizeOf23 rfl h) (j_gt rfl rfl (j_valw rfl (fun a w ha hH hf => r_ldH 0 rfl rfl Tryz.isAgg23 rfl rfl ha hH) (j_gt rfl rfl ?_))))))))))
 refine j_callQ (φ := fun r => r = .bool true) Tryz.call30 rfl rfl (fun w3 hH hf => sfSm_c w3 _ _ (x.samples) (hs.keep (RSample.keep (hf.keepAll (.inr rfl))) (hf.keepAll (.inr rfl))) (hs2.keep (RSample.keep (hf.keepAll (.inr rfl))) (hf.keepAll (.inr rfl)))) fun r hr => ?_
 subst hr
 refine j_val rfl (fun _ _ h => r_pick_t rfl rfl h) (jM rfl rfl (j_gt rfl rfl (j_val rfl (fun _ _ h => r_fl (q := 3) (ft := 24) Tryz.runUnderlying31 rfl Tryz.sizeOf24 rfl h) (j_gt rfl rfl (j_valw rfl (fun a w ha hH hf => r_ldH 1 rfl rfl Tryz.isAgg24 rfl rfl ha hH) (j_gt rfl rfl (j_val rfl (fun _ _ h => r_fl (q := 3) (ft := 24) Tryz.runUnderlying31 rfl Tryz.sizeOf24 rfl h) (j_gt rfl rfl (j_valw rfl (fun a w ha hH hf => r_ldH 0 rfl rfl Tryz.isAgg24 rfl rfl ha hH) (j_gt rfl rfl ?_))))))))))
 refine j_callQ (φ := fun r => r = .bool true) Tryz.call32 rfl rfl (fun w3 hH hf => slMp_c w3 _ _ (x.mappings) (hm.keep (RMapping.keep (hf.keepAll (.inr rfl))) (hf.keepAll (.inr rfl))) (hm2.keep (RMapping.keep (hf.keepAll (.inr rfl))) (hf.keepAll (.inr rfl)))) fun r hr => ?_
 subst hr
 refine j_val rfl (fun _ _ h => r_pick_t rfl rfl h) (jM rfl rfl (j_gt rfl rfl (j_val rfl (fun _ _ h => r_fl (q := 4) (ft := 25) Tryz.runUnderlying31 rfl Tryz.sizeOf25 rfl h) (j_gt rfl rfl (j_valw rfl (fun a w ha hH hf => r_ldH 1 rfl rfl Tryz.isAgg25 rfl rfl ha hH) (j_gt rfl rfl (j_val rfl (fun _ _ h => r_fl (q := 4) (ft := 25) Tryz.runUnderlying31 rfl Tryz.sizeOf25 rfl h) (j_gt rfl rfl (j_valw rfl (fun a w ha hH hf => r_ldH 0 rfl rfl Tryz.isAgg25 rfl rfl ha hH) (j_gt rfl rfl ?_))))))))))
 refine j_callQ (φ := fun r => r = .bool true) Tryz.call33 rfl rfl (fun w3 hH hf => sfLc_c w3 _ _ (x.locs) (hl.keep (RLoc.keep (hf.keepAll (.inr rfl))) (hf.keepAll (.inr rfl))) (hl2.keep (RLoc.keep (hf.keepAll (.inr rfl))) (hf.keepAll (.inr rfl)))) fun r hr => ?_
 subst hr
 refine j_val rfl (fun _ _ h => r_pick_t rfl rfl h) (jM rfl rfl (j_gt rfl rfl (j_val rfl (fun _ _ h => r_fl (q := 5) (ft := 26) Tryz.runUnderlying31 rfl Tryz.sizeOf26 rfl h) (j_gt rfl rfl (j_valw rfl (fun a w ha hH hf => r_ldH 1 rfl rfl Tryz.isAgg26 rfl rfl ha hH) (j_gt rfl rfl (j_val rfl (fun _ _ h => r_fl (q := 5) (ft := 26) Tryz.runUnderlying31 rfl Tryz.sizeOf26 rfl h) (j_gt rfl rfl (j_valw rfl (fun a w ha hH hf => r_ldH 0 rfl rfl Tryz.isAgg26 rfl rfl ha hH) (j_gt rfl rfl ?_))))))))))
 refine j_callQ (φ := fun r => r = .bool true) Tryz.call35 rfl rfl (fun w3 hH hf => slFn_c w3 _ _ (x.funcs) (hf0.keep (RFunc.keep (hf.keepAll (.inr rfl))) (hf.keepAll (.inr rfl))) (hf2.keep (RFunc.keep (hf.keepAll (.inr rfl))) (hf.keepAll (.inr rfl)))) fun r hr => ?_
 subst hr
 refine j_val rfl (fun _ _ h => r_pick_t rfl rfl h) (jM rfl rfl (j_gt rfl rfl (j_val rfl (fun _ _ h => r_fl (q := 6) (ft := 27) Tryz.runUnderlying31 rfl Tryz.sizeOf27 rfl h) (j_gt rfl rfl (j_valw rfl (fun a w ha hH hf => r_ldH 1 rfl rfl Tryz.isAgg27 rfl rfl ha hH) (j_gt rfl rfl (j_val rfl (fun _ _ h => r_fl (q := 6) (ft := 27) Tryz.runUnderlying31 rfl Tryz.sizeOf27 rfl h) (j_gt rfl rfl (j_valw rfl (fun a w ha hH hf => r_ldH 0 rfl rfl Tryz.isAgg27 rfl rfl ha hH) (j_gt rfl rfl ?_))))))))))
 refine j_callQ (φ := fun r => r = .bool true) Tryz.call36 rfl rfl (fun w3 hH hf => slSt_c w3 _ _ (x.comments) (hcm.keep (RStr.keep (hf.keepAll (.inr rfl))) (hf.keepAll (.inr rfl))) (hcm2.keep (RStr.keep (hf.keepAll (.inr rfl))) (hf.keepAll (.inr rfl)))) fun r hr => ?_
 subst hr
 refine j_val rfl (fun _ _ h => r_pick_t rfl rfl h) (jM rfl rfl (j_gt rfl rfl (j_val rfl (fun _ _ h => r_fl (q := 7) (ft := 9) Tryz.runUnderlying31 rfl Tryz.sizeOf9 rfl h) (j_gt rfl rfl (j_valw rfl (fun a w ha hH hf => r_ldH 1 rfl rfl Tryz.isAgg9 rfl rfl ha hH) (j_gt rfl rfl (j_val rfl (fun _ _ h => r_fl (q := 7) (ft := 9) Tryz.runUnderlying31 rfl Tryz.sizeOf9 rfl h) (j_gt rfl rfl (j_valw rfl (fun a w ha hH hf => r_ldH 0 rfl rfl Tryz.isAgg9 rfl rfl ha hH) (j_gt rfl rfl (j_val rfl (fun _ _ h => r_seql rfl rfl h) ?_)))))))))))
 refine j_eqv (u := .bool true) (congrArg Value.bool (by simp)) ?_
 refine j_val rfl (fun _ _ h => r_pick_t rfl rfl h) (jM rfl rfl (j_gt rfl rfl (j_val rfl (fun _ _ h => r_fl (q := 8) (ft := 9) Tryz.runUnderlying31 rfl Tryz.sizeOf9 rfl h) (j_gt rfl rfl (j_valw rfl (fun a w ha hH hf => r_ldH 1 rfl rfl Tryz.isAgg9 rfl rfl ha hH) (j_gt rfl rfl (j_val rfl (fun _ _ h => r_fl (q := 8) (ft := 9) Tryz.runUnderlying31 rfl Tryz.sizeOf9 rfl h) (j_gt rfl rfl (j_valw rfl (fun a w ha hH hf => r_ldH 0 rfl rfl Tryz.isAgg9 rfl rfl ha hH) (j_gt rfl rfl (j_val rfl (fun _ _ h => r_seql rfl rfl h) ?_)))))))))))
 refine j_eqv (u := .bool true) (congrArg Value.bool (by simp)) ?_
 refine j_val rfl (fun _ _ h => r_pick_t rfl rfl h) (jM rfl rfl (j_gt rfl rfl (j_val rfl (fun _ _ h => r_fl (q := 9) (ft := 2) Tryz.runUnderlying31 rfl Tryz.sizeOf2 rfl h) (j_gt rfl rfl (j_valw rfl (fun a w ha hH hf => r_ldH 1 rfl rfl Tryz.isAgg2 rfl rfl ha hH) (j_gt rfl rfl (j_val rfl (fun _ _ h => r_fl (q := 9) (ft := 2) Tryz.runUnderlying31 rfl Tryz.sizeOf2 rfl h) (j_gt rfl rfl (j_valw rfl (fun a w ha hH hf => r_ldH 0 rfl rfl Tryz.isAgg2 rfl rfl ha hH) (j_gt rfl rfl (j_val rfl (fun _ _ h => r_eql rfl rfl h) ?_)))))))))))
 refine j_eqv (u := .bool true) (congrArg Value.bool (by simp)) ?_
 refine j_val rfl (fun _ _ h => r_pick_t rfl rfl h) (jM rfl rfl (j_gt rfl rfl (j_val rfl (fun _ _ h => r_fl (q := 10) (ft := 2) Tryz.runUnderlying31 rfl Tryz.sizeOf2 rfl h) (j_gt rfl rfl (j_valw rfl (fun a w ha hH hf => r_ldH 1 rfl rfl Tryz.isAgg2 rfl rfl ha hH) (j_gt rfl rfl (j_val rfl (fun _ _ h => r_fl (q := 10) (ft := 2) Tryz.runUnderlying31 rfl Tryz.sizeOf2 rfl h) (j_gt rfl rfl (j_valw rfl (fun a w ha hH hf => r_ldH 0 rfl rfl Tryz.isAgg2 rfl rfl ha hH) (j_gt rfl rfl (j_val rfl (fun _ _ h => r_eql rfl rfl h) ?_)))))))))))
 refine j_eqv (u := .bool true) (congrArg Value.bool (by simp)) ?_
 refine j_val rfl (fun _ _ h => r_pick_t rfl rfl h) (jM rfl rfl (j_gt rfl rfl (j_val rfl (fun _ _ h => r_fl (q := 11) (ft := 2) Tryz.runUnderlying31 rfl Tryz.sizeOf2 rfl h) (j_gt rfl rfl (j_valw rfl (fun a w ha hH hf => r_ldH 1 rfl rfl Tryz.isAgg2 rfl rfl ha hH) (j_gt rfl rfl (j_val rfl (fun _ _ h => r_fl (q := 11) (ft := 2) Tryz.runUnderlying31 rfl Tryz.sizeOf2 rfl h) (j_gt rfl rfl (j_valw rfl (fun a w ha hH hf => r_ldH 0 rfl rfl Tryz.isAgg2 rfl rfl ha hH) (j_gt rfl rfl (j_val rfl (fun _ _ h => r_eql rfl rfl h) ?_)))))))))))
 refine j_eqv (u := .bool true) (congrArg Value.bool (by simp)) ?_
 refine j_val rfl (fun _ _ h => r_pick_t rfl rfl h) (jM rfl rfl (j_gt rfl rfl (j_val rfl (fun _ _ h => r_fl (q := 12) (ft := 29) Tryz.runUnderlying31 rfl Tryz.sizeOf29 rfl h) (j_gt rfl rfl (j_valw rfl (fun a w ha hH hf => r_ldA (vs := [_, _]) 1 rfl rfl Tryz.isAgg29 Tryz.sizeOf29 rfl rfl rfl ha hH) (j_gt rfl rfl (j_val rfl (fun _ _ h => r_fl (q := 12) (ft := 29) Tryz.runUnderlying31 rfl Tryz.sizeOf29 rfl h) (j_gt rfl rfl (j_valw rfl (fun a w ha hH hf => r_ldA (vs := [_, _]) 0 rfl rfl Tryz.isAgg29 Tryz.sizeOf29 rfl rfl rfl ha hH) (j_gt rfl rfl (j_val rfl (fun _ _ h => r_eqlA (eqTy _ _) egTy rfl rfl h) (j_val rfl (fun _ _ h => r_pick_t rfl rfl h) (jA rfl rfl ?_)))))))))))))
 refine j_nil (ej_then (hK2 _ _ _ (CJ.s [(4, _)] ⟨rfl, trivial⟩ (cj_ret (?_)))))
 exact ej_ret1 Tryz.results9 rfl fun w' hH hf => ⟨rfl, hf⟩

theorem bare_c (w : World) (cs : List Value) (x : PProf) (hR : RProf w cs x) : Calls Tryz.prog 6 #[.agg cs.toArray] w (Ret fun r w' => (∃ b, r = .bool b ∧ (b = true → x.comments = [] ∧ x.deflt = ⟨#[]⟩)) ∧ Fr 0 [] w w') := by
 obtain ⟨a, s, m, l, f, cm, rfl, ha, hs, hm, hl, hf0, hcm, -⟩ := hR
 obtain ⟨pa, ca, rfl, -⟩ := ha.open
 obtain ⟨ps, c_s, rfl, -⟩ := hs.open
 obtain ⟨pm, c_m, rfl, -⟩ := hm.open
 obtain ⟨pl, cl, rfl, -⟩ := hl.open
 obtain ⟨pf, cf, rfl, -⟩ := hf0.open
 obtain ⟨pc, cc, rfl, -⟩ := hcm.open
 refine startJ (args := [_]) [(0, .agg (List.toArray [_, _, _, _, _, _, _, _, _, _, _, _, _, _]))] 0 [] [] Tryz.func6 rfl Tryz.ntmps6 rfl rfl .nil ?_
 refine cj_seqF fun K1 hK1 => cj_reg ?_
 refine j_boxA (vs := [_, _, _, _, _, _, _, _, _, _, _, _, _, _]) rfl rfl fun b1 => ?_
 refine jA rfl rfl (j_nil (ej_then (hK1 _ _ _ (CJ.s [(1, _)] ⟨rfl, trivial⟩ (cj_seqF fun K2 hK2 => cj_reg (j_val rfl (fun _ _ h => r_fl (q := 6) (ft := 27) Tryz.runUnderlying31 rfl Tryz.sizeOf27 rfl h) (j_valw rfl (fun a w ha hH hf => r_ldH 0 rfl rfl Tryz.isAgg27 rfl rfl ha hH) (j_val rfl (fun _ _ h => r_len Tryz.runUnderlying27 rfl h) (j_val rfl (fun _ _ h => r_eql rfl rfl h) (jM rfl rfl ?_))))))))))
 refine j_split (t := 7) rfl (fun hg7 => ?_) (fun hg7 => ?_)
 ·refine j_gt rfl rfl (j_val rfl (fun _ _ h => r_fl (q := 1) (ft := 9) Tryz.runUnderlying31 rfl Tryz.sizeOf9 rfl h) (j_gt rfl rfl (j_valw rfl (fun a w ha hH hf => r_ldH 0 rfl rfl Tryz.isAgg9 rfl rfl ha hH) (j_gt rfl rfl (j_val rfl (fun _ _ h => r_seql rfl rfl h) (j_val rfl (fun _ _ h => r_pick_t rfl rfl h) (jA rfl rfl (j_nil (ej_then (hK2 _ _ _ (CJ.s [(2, _)] ⟨rfl, trivial⟩ (cj_ret (?_)))))))))))))
  first
  | exact ej_ret1 Tryz.results6 rfl fun w' hH hf => ⟨⟨_, rfl, fun h => ⟨by simp at hg7; exact hg7, by simpa using h⟩⟩, hf⟩
  | exact ej_ret1 Tryz.results6 rfl fun w' hH hf => ⟨⟨_, rfl, fun h => by cases h⟩, hf⟩
 ·refine j_gf rfl rfl rfl rfl (j_gf rfl rfl rfl rfl (j_gf rfl rfl rfl rfl (j_val rfl (fun _ _ h => r_pick_f rfl rfl h) (jA rfl rfl (j_nil (ej_then (hK2 _ _ _ (CJ.s [(2, _)] ⟨rfl, trivial⟩ (cj_ret (?_))))))))))
  first
  | exact ej_ret1 Tryz.results6 rfl fun w' hH hf => ⟨⟨_, rfl, fun h => ⟨by simp at hg7; exact hg7, by simpa using h⟩⟩, hf⟩
  | exact ej_ret1 Tryz.results6 rfl fun w' hH hf => ⟨⟨_, rfl, fun h => by cases h⟩, hf⟩
end Go.Proofs.YtifnhinopjgfaaaGreat
