/-
  What each message's encode puts behind the buffer's bytes. Conditions: the buffer's bytes are few enough for any machine.
-/
import Derived.Test.YtifnhinopjgfaaaGreatEm
namespace Go.Proofs.YtifnhinopjgfaaaGreat
open Go Go.Fw Go.Proofs Go.Proofs.Tryz
abbrev tLabel : Nat := 164
theorem me_VT (v a : Value) (w : World) : (callMethod (.iface 113 v) encN #[a]).run Tryz.prog w = .ok (.enter 126 #[v, a]) w := by kernel_rfl
theorem me_Sam (v a : Value) (w : World) : (callMethod (.iface 134 v) encN #[a]).run Tryz.prog w = .ok (.enter 137 #[v, a]) w := by kernel_rfl
theorem me_Map (v a : Value) (w : World) : (callMethod (.iface 122 v) encN #[a]).run Tryz.prog w = .ok (.enter 128 #[v, a]) w := by kernel_rfl
theorem me_Loc (v a : Value) (w : World) : (callMethod (.iface 128 v) encN #[a]).run Tryz.prog w = .ok (.enter 135 #[v, a]) w := by kernel_rfl
theorem me_Fun (v a : Value) (w : World) : (callMethod (.iface 125 v) encN #[a]).run Tryz.prog w = .ok (.enter 133 #[v, a]) w := by kernel_rfl
theorem me_Lin (v a : Value) (w : World) : (callMethod (.iface 223 v) encN #[a]).run Tryz.prog w = .ok (.enter 143 #[v, a]) w := by kernel_rfl
theorem me_Lab (v a : Value) (w : World) : (callMethod (.iface 164 v) encN #[a]).run Tryz.prog w = .ok (.enter 140 #[v, a]) w := by kernel_rfl
theorem atFr {f : Fm} {B : Nat} {w : World} {b off : Nat} {cs : List Value} (hF : Fr B wE w f.ws) (hb : ∀ w', Fr B wE w w' → ∀ (j : Nat) (u : Value), cs[j]? = some u → w'.cell? ⟨b, off + j, none⟩ = some u) (hq : f.B = 0 ∧ f.W = [] := by exact ⟨rfl, rfl⟩) :
  ∀ w', f.ok w' → ∀ (j : Nat) (u : Value), cs[j]? = some u → w'.cell? ⟨b, off + j, none⟩ = some u := fun w' hf => hb w' (frQ hF (by have : Fr f.B f.W f.ws w' := hf; rw [hq.1, hq.2] at this; exact this))
theorem bnat_lt (b : Bool) : bnat b < 18446744073709551616 := by cases b <;> decide
def vtB (tx : Int) (ux : Int) : List Nat := optB 1 (u64 tx) ++ (optB 2 (u64 ux))
theorem vtB_len (tx : Int) (ux : Int) (h1 : IntKind.i64.wrap tx = tx) (h2 : IntKind.i64.wrap ux = ux) : (vtB tx ux).length ≤ 40 := by
 have o0 := optB_len (k := 1) (n := (u64 tx)) (by omega) (u64_lt _)
 have o1 := optB_len (k := 2) (n := (u64 ux)) (by omega) (u64_lt _)
 simp only [vtB, List.length_append]; omega
theorem vtEnc_c (B : Nat) (w : World) (bb : Nat) (D : List Nat) (tx : Int) (ux : Int) (h1 : IntKind.i64.wrap tx = tx) (h2 : IntKind.i64.wrap ux = ux) {b : Nat} {ty un : ByteArray} (hb : Blk w b tVT [.string ty, .string un, .int .i64 tx, .int .i64 ux]) (h : Bf B w bb D) (hl : D.length + 60 ≤ 100000000000) :
  Calls Tryz.prog 126 #[ptr b, ptr bb] w (Ret fun _ w' => Bf B w' bb (D ++ vtB tx ux) ∧ Fr B wE w w') := by
 have o0 := optB_len (k := 1) (n := (u64 tx)) (by omega) (u64_lt _)
 have o1 := optB_len (k := 2) (n := (u64 ux)) (by omega) (u64_lt _)
 have hF0 : Fr B wE w w := Fr.refl _ _ _
 have hc0 := mc (f := ⟨w, 0, []⟩) (fr_row (Fr.refl B wE w) rfl _ _ hb) rfl
 refine startJ (args := [_, _]) [(0, _), (1, _)] 0 [] [] func126 rfl ntmps126 rfl rfl .nil ?_
 refine cj_seqF fun K1 hK1 => cj_reg (jM rfl rfl (jM rfl rfl (jN rfl rfl (j_val rfl (fun _ _ h => r_fl (q := 2) (ft := 2) runUnderlying159 rfl sizeOf2 rfl h) (j_valw rfl (fun a w ha hH hf => r_load isAgg2 rfl (hc0 w (hf) 2 _ rfl) ha) ?_)))))
 refine j_callB (D' := D ++ optB 1 (u64 tx)) hF0 h call119 rfl rfl (fun w1 hf hB => int64Opt_c B w1 bb _ 1 tx (by omega) h1 hB (by first | omega | (simp only [List.length_append]; omega))) fun v w10 hB1 hF1 => ?_
 have hc0 := mc (f := ⟨w10, 0, []⟩) (fr_row hF1 rfl _ _ hb) rfl
 refine j_nil (ej_then (hK1 _ _ _ (CJ.s [(0, _), (1, _)] ⟨rfl, rfl, trivial⟩ (cj_reg (jM rfl rfl (jM rfl rfl (jN rfl rfl (j_val rfl (fun _ _ h => r_fl (q := 3) (ft := 2) runUnderlying159 rfl sizeOf2 rfl h) (j_valw rfl (fun a w ha hH hf => r_load isAgg2 rfl (hc0 w (hf) 3 _ rfl) ha) ?_)))))))))
 refine j_callB (D' := D ++ optB 1 (u64 tx) ++ optB 2 (u64 ux)) hF1 hB1 call119 rfl rfl (fun w1 hf hB => int64Opt_c B w1 bb _ 2 ux (by omega) h2 hB (by first | omega | (simp only [List.length_append]; omega))) fun v w11 hB2 hF2 => ?_
 have hc0 := mc (f := ⟨w11, 0, []⟩) (fr_row hF2 rfl _ _ hb) rfl
 refine j_nil ?_
 refine ?_
 exact ej_end0 results126 fun w' hH hf => ⟨by have := hB2.fr hf; simp only [vtB, List.append_assoc] at this ⊢; exact this, frQ hF2 hf⟩
def mpB (id : Nat) (st : Nat) (li : Nat) (of : Nat) (fx : Int) (bx : Int) (q0 : Bool) (q1 : Bool) (q2 : Bool) (q3 : Bool) : List Nat := optB 1 id ++ (optB 2 st ++ (optB 3 li ++ (optB 4 of ++ (optB 5 (u64 fx) ++ (optB 6 (u64 bx) ++ (optB 7 (bnat q0) ++ (optB 8 (bnat q1) ++ (optB 9 (bnat q2) ++ (optB 10 (bnat q3))))))))))
theorem mpB_len (id : Nat) (st : Nat) (li : Nat) (of : Nat) (fx : Int) (bx : Int) (q0 : Bool) (q1 : Bool) (q2 : Bool) (q3 : Bool) (lid : id < 18446744073709551616) (lst : st < 18446744073709551616) (lli : li < 18446744073709551616) (lof : of < 18446744073709551616) (h1 : IntKind.i64.wrap fx = fx) (h2 : IntKind.i64.wrap bx = bx) : (mpB id st li of fx bx q0 q1 q2 q3).length ≤ 200 := by
 have o0 := optB_len (k := 1) (n := id) (by omega) ((by omega))
 have o1 := optB_len (k := 2) (n := st) (by omega) ((by omega))
 have o2 := optB_len (k := 3) (n := li) (by omega) ((by omega))
 have o3 := optB_len (k := 4) (n := of) (by omega) ((by omega))
 have o4 := optB_len (k := 5) (n := (u64 fx)) (by omega) (u64_lt _)
 have o5 := optB_len (k := 6) (n := (u64 bx)) (by omega) (u64_lt _)
 have o6 := optB_len (k := 7) (n := (bnat q0)) (by omega) ((bnat_lt _))
 have o7 := optB_len (k := 8) (n := (bnat q1)) (by omega) ((bnat_lt _))
 have o8 := optB_len (k := 9) (n := (bnat q2)) (by omega) ((bnat_lt _))
 have o9 := optB_len (k := 10) (n := (bnat q3)) (by omega) ((bnat_lt _))
 simp only [mpB, List.length_append]; omega
theorem mpEnc_c (B : Nat) (w : World) (bb : Nat) (D : List Nat) (id : Nat) (st : Nat) (li : Nat) (of : Nat) (fx : Int) (bx : Int) (q0 : Bool) (q1 : Bool) (q2 : Bool) (q3 : Bool) (lid : id < 18446744073709551616) (lst : st < 18446744073709551616) (lli : li < 18446744073709551616) (lof : of < 18446744073709551616) (h1 : IntKind.i64.wrap fx = fx) (h2 : IntKind.i64.wrap bx = bx) {b : Nat} {fi bu : ByteArray} (hb : Blk w b tMap [.int .u64 (id : Nat), .int .u64 (st : Nat), .int .u64 (li : Nat), .int .u64 (of : Nat), .string fi, .string bu, .bool q0, .bool q1, .bool q2, .bool q3, .int .i64 fx, .int .i64 bx]) (h : Bf B w bb D) (hl : D.length + 220 ≤ 100000000000) :
  Calls Tryz.prog 128 #[ptr b, ptr bb] w (Ret fun _ w' => Bf B w' bb (D ++ mpB id st li of fx bx q0 q1 q2 q3) ∧ Fr B wE w w') := by
 have o0 := optB_len (k := 1) (n := id) (by omega) ((by omega))
 have o1 := optB_len (k := 2) (n := st) (by omega) ((by omega))
 have o2 := optB_len (k := 3) (n := li) (by omega) ((by omega))
 have o3 := optB_len (k := 4) (n := of) (by omega) ((by omega))
 have o4 := optB_len (k := 5) (n := (u64 fx)) (by omega) (u64_lt _)
 have o5 := optB_len (k := 6) (n := (u64 bx)) (by omega) (u64_lt _)
 have o6 := optB_len (k := 7) (n := (bnat q0)) (by omega) ((bnat_lt _))
 have o7 := optB_len (k := 8) (n := (bnat q1)) (by omega) ((bnat_lt _))
 have o8 := optB_len (k := 9) (n := (bnat q2)) (by omega) ((bnat_lt _))
 have o9 := optB_len (k := 10) (n := (bnat q3)) (by omega) ((bnat_lt _))
 have hF0 : Fr B wE w w := Fr.refl _ _ _
 have hc0 := mc (f := ⟨w, 0, []⟩) (fr_row (Fr.refl B wE w) rfl _ _ hb) rfl
 refine startJ (args := [_, _]) [(0, _), (1, _)] 0 [] [] func128 rfl ntmps128 rfl rfl .nil ?_
 refine cj_seqF fun K1 hK1 => cj_reg (jM rfl rfl (jM rfl rfl (jN rfl rfl (j_val rfl (fun _ _ h => r_fl (q := 0) (ft := 59) runUnderlying124 rfl sizeOf59 rfl h) (j_valw rfl (fun a w ha hH hf => r_load isAgg59 rfl (hc0 w (hf) 0 _ rfl) ha) ?_)))))
 refine j_callB (D' := D ++ optB 1 id) hF0 h call129 rfl rfl (fun w1 hf hB => uint64Opt_c B w1 bb _ 1 id (by omega) (by omega) hB (by first | omega | (simp only [List.length_append]; omega))) fun v w10 hB1 hF1 => ?_
 have hc0 := mc (f := ⟨w10, 0, []⟩) (fr_row hF1 rfl _ _ hb) rfl
 refine j_nil (ej_then (hK1 _ _ _ (CJ.s [(0, _), (1, _)] ⟨rfl, rfl, trivial⟩ (cj_seqF fun K2 hK2 => cj_reg (jM rfl rfl (jM rfl rfl (jN rfl rfl (j_val rfl (fun _ _ h => r_fl (q := 1) (ft := 59) runUnderlying124 rfl sizeOf59 rfl h) (j_valw rfl (fun a w ha hH hf => r_load isAgg59 rfl (hc0 w (hf) 1 _ rfl) ha) ?_)))))))))
 refine j_callB (D' := D ++ optB 1 id ++ optB 2 st) hF1 hB1 call129 rfl rfl (fun w1 hf hB => uint64Opt_c B w1 bb _ 2 st (by omega) (by omega) hB (by first | omega | (simp only [List.length_append]; omega))) fun v w11 hB2 hF2 => ?_
 have hc0 := mc (f := ⟨w11, 0, []⟩) (fr_row hF2 rfl _ _ hb) rfl
 refine j_nil (ej_then (hK2 _ _ _ (CJ.s [(0, _), (1, _)] ⟨rfl, rfl, trivial⟩ (cj_seqF fun K3 hK3 => cj_reg (jM rfl rfl (jM rfl rfl (jN rfl rfl (j_val rfl (fun _ _ h => r_fl (q := 2) (ft := 59) runUnderlying124 rfl sizeOf59 rfl h) (j_valw rfl (fun a w ha hH hf => r_load isAgg59 rfl (hc0 w (hf) 2 _ rfl) ha) ?_)))))))))
 refine j_callB (D' := D ++ optB 1 id ++ optB 2 st ++ optB 3 li) hF2 hB2 call129 rfl rfl (fun w1 hf hB => uint64Opt_c B w1 bb _ 3 li (by omega) (by omega) hB (by first | omega | (simp only [List.length_append]; omega))) fun v w12 hB3 hF3 => ?_
 have hc0 := mc (f := ⟨w12, 0, []⟩) (fr_row hF3 rfl _ _ hb) rfl
 refine j_nil (ej_then (hK3 _ _ _ (CJ.s [(0, _), (1, _)] ⟨rfl, rfl, trivial⟩ (cj_seqF fun K4 hK4 => cj_reg (jM rfl rfl (jM rfl rfl (jN rfl rfl (j_val rfl (fun _ _ h => r_fl (q := 3) (ft := 59) runUnderlying124 rfl sizeOf59 rfl h) (j_valw rfl (fun a w ha hH hf => r_load isAgg59 rfl (hc0 w (hf) 3 _ rfl) ha) ?_)))))))))
 refine j_callB (D' := D ++ optB 1 id ++ optB 2 st ++ optB 3 li ++ optB 4 of) hF3 hB3 call129 rfl rfl (fun w1 hf hB => uint64Opt_c B w1 bb _ 4 of (by omega) (by omega) hB (by first | omega | (simp only [List.length_append]; omega))) fun v w13 hB4 hF4 => ?_
 have hc0 := mc (f := ⟨w13, 0, []⟩) (fr_row hF4 rfl _ _ hb) rfl
 refine j_nil (ej_then (hK4 _ _ _ (CJ.s [(0, _), (1, _)] ⟨rfl, rfl, trivial⟩ (cj_seqF fun K5 hK5 => cj_reg (jM rfl rfl (jM rfl rfl (jN rfl rfl (j_val rfl (fun _ _ h => r_fl (q := 10) (ft := 2) runUnderlying124 rfl sizeOf2 rfl h) (j_valw rfl (fun a w ha hH hf => r_load isAgg2 rfl (hc0 w (hf) 10 _ rfl) ha) ?_)))))))))
 refine j_callB (D' := D ++ optB 1 id ++ optB 2 st ++ optB 3 li ++ optB 4 of ++ optB 5 (u64 fx)) hF4 hB4 call119 rfl rfl (fun w1 hf hB => int64Opt_c B w1 bb _ 5 fx (by omega) h1 hB (by first | omega | (simp only [List.length_append]; omega))) fun v w14 hB5 hF5 => ?_
 have hc0 := mc (f := ⟨w14, 0, []⟩) (fr_row hF5 rfl _ _ hb) rfl
 refine j_nil (ej_then (hK5 _ _ _ (CJ.s [(0, _), (1, _)] ⟨rfl, rfl, trivial⟩ (cj_seqF fun K6 hK6 => cj_reg (jM rfl rfl (jM rfl rfl (jN rfl rfl (j_val rfl (fun _ _ h => r_fl (q := 11) (ft := 2) runUnderlying124 rfl sizeOf2 rfl h) (j_valw rfl (fun a w ha hH hf => r_load isAgg2 rfl (hc0 w (hf) 11 _ rfl) ha) ?_)))))))))
 refine j_callB (D' := D ++ optB 1 id ++ optB 2 st ++ optB 3 li ++ optB 4 of ++ optB 5 (u64 fx) ++ optB 6 (u64 bx)) hF5 hB5 call119 rfl rfl (fun w1 hf hB => int64Opt_c B w1 bb _ 6 bx (by omega) h2 hB (by first | omega | (simp only [List.length_append]; omega))) fun v w15 hB6 hF6 => ?_
 have hc0 := mc (f := ⟨w15, 0, []⟩) (fr_row hF6 rfl _ _ hb) rfl
 refine j_nil (ej_then (hK6 _ _ _ (CJ.s [(0, _), (1, _)] ⟨rfl, rfl, trivial⟩ (cj_seqF fun K7 hK7 => cj_reg (jM rfl rfl (jM rfl rfl (jN rfl rfl (j_val rfl (fun _ _ h => r_fl (q := 6) (ft := 4) runUnderlying124 rfl sizeOf4 rfl h) (j_valw rfl (fun a w ha hH hf => r_load isAgg4 rfl (hc0 w (hf) 6 _ rfl) ha) ?_)))))))))
 refine j_callB (D' := D ++ optB 1 id ++ optB 2 st ++ optB 3 li ++ optB 4 of ++ optB 5 (u64 fx) ++ optB 6 (u64 bx) ++ optB 7 (bnat q0)) hF6 hB6 call130 rfl rfl (fun w1 hf hB => boolOpt_c B w1 bb _ 7 q0 (by omega) hB (by first | omega | (simp only [List.length_append]; omega))) fun v w16 hB7 hF7 => ?_
 have hc0 := mc (f := ⟨w16, 0, []⟩) (fr_row hF7 rfl _ _ hb) rfl
 refine j_nil (ej_then (hK7 _ _ _ (CJ.s [(0, _), (1, _)] ⟨rfl, rfl, trivial⟩ (cj_seqF fun K8 hK8 => cj_reg (jM rfl rfl (jM rfl rfl (jN rfl rfl (j_val rfl (fun _ _ h => r_fl (q := 7) (ft := 4) runUnderlying124 rfl sizeOf4 rfl h) (j_valw rfl (fun a w ha hH hf => r_load isAgg4 rfl (hc0 w (hf) 7 _ rfl) ha) ?_)))))))))
 refine j_callB (D' := D ++ optB 1 id ++ optB 2 st ++ optB 3 li ++ optB 4 of ++ optB 5 (u64 fx) ++ optB 6 (u64 bx) ++ optB 7 (bnat q0) ++ optB 8 (bnat q1)) hF7 hB7 call130 rfl rfl (fun w1 hf hB => boolOpt_c B w1 bb _ 8 q1 (by omega) hB (by first | omega | (simp only [List.length_append]; omega))) fun v w17 hB8 hF8 => ?_
 have hc0 := mc (f := ⟨w17, 0, []⟩) (fr_row hF8 rfl _ _ hb) rfl
 refine j_nil (ej_then (hK8 _ _ _ (CJ.s [(0, _), (1, _)] ⟨rfl, rfl, trivial⟩ (cj_seqF fun K9 hK9 => cj_reg (jM rfl rfl (jM rfl rfl (jN rfl rfl (j_val rfl (fun _ _ h => r_fl (q := 8) (ft := 4) runUnderlying124 rfl sizeOf4 rfl h) (j_valw rfl (fun a w ha hH hf => r_load isAgg4 rfl (hc0 w (hf) 8 _ rfl) ha) ?_)))))))))
 refine j_callB (D' := D ++ optB 1 id ++ optB 2 st ++ optB 3 li ++ optB 4 of ++ optB 5 (u64 fx) ++ optB 6 (u64 bx) ++ optB 7 (bnat q0) ++ optB 8 (bnat q1) ++ optB 9 (bnat q2)) hF8 hB8 call130 rfl rfl (fun w1 hf hB => boolOpt_c B w1 bb _ 9 q2 (by omega) hB (by first | omega | (simp only [List.length_append]; omega))) fun v w18 hB9 hF9 => ?_
 have hc0 := mc (f := ⟨w18, 0, []⟩) (fr_row hF9 rfl _ _ hb) rfl
 refine j_nil (ej_then (hK9 _ _ _ (CJ.s [(0, _), (1, _)] ⟨rfl, rfl, trivial⟩ (cj_reg (jM rfl rfl (jM rfl rfl (jN rfl rfl (j_val rfl (fun _ _ h => r_fl (q := 9) (ft := 4) runUnderlying124 rfl sizeOf4 rfl h) (j_valw rfl (fun a w ha hH hf => r_load isAgg4 rfl (hc0 w (hf) 9 _ rfl) ha) ?_)))))))))
 refine j_callB (D' := D ++ optB 1 id ++ optB 2 st ++ optB 3 li ++ optB 4 of ++ optB 5 (u64 fx) ++ optB 6 (u64 bx) ++ optB 7 (bnat q0) ++ optB 8 (bnat q1) ++ optB 9 (bnat q2) ++ optB 10 (bnat q3)) hF9 hB9 call130 rfl rfl (fun w1 hf hB => boolOpt_c B w1 bb _ 10 q3 (by omega) hB (by first | omega | (simp only [List.length_append]; omega))) fun v w19 hB10 hF10 => ?_
 have hc0 := mc (f := ⟨w19, 0, []⟩) (fr_row hF10 rfl _ _ hb) rfl
 refine j_nil ?_
 refine ?_
 exact ej_end0 results128 fun w' hH hf => ⟨by have := hB10.fr hf; simp only [mpB, List.append_assoc] at this ⊢; exact this, frQ hF10 hf⟩
def fnB (id : Nat) (nx : Int) (sx : Int) (fx : Int) (sl : Int) : List Nat := optB 1 id ++ (optB 2 (u64 nx) ++ (optB 3 (u64 sx) ++ (optB 4 (u64 fx) ++ (optB 5 (u64 sl)))))
theorem fnB_len (id : Nat) (nx : Int) (sx : Int) (fx : Int) (sl : Int) (lid : id < 18446744073709551616) (h1 : IntKind.i64.wrap nx = nx) (h2 : IntKind.i64.wrap sx = sx) (h3 : IntKind.i64.wrap fx = fx) (h4 : IntKind.i64.wrap sl = sl) : (fnB id nx sx fx sl).length ≤ 100 := by
 have o0 := optB_len (k := 1) (n := id) (by omega) ((by omega))
 have o1 := optB_len (k := 2) (n := (u64 nx)) (by omega) (u64_lt _)
 have o2 := optB_len (k := 3) (n := (u64 sx)) (by omega) (u64_lt _)
 have o3 := optB_len (k := 4) (n := (u64 fx)) (by omega) (u64_lt _)
 have o4 := optB_len (k := 5) (n := (u64 sl)) (by omega) (u64_lt _)
 simp only [fnB, List.length_append]; omega
theorem fnEnc_c (B : Nat) (w : World) (bb : Nat) (D : List Nat) (id : Nat) (nx : Int) (sx : Int) (fx : Int) (sl : Int) (lid : id < 18446744073709551616) (h1 : IntKind.i64.wrap nx = nx) (h2 : IntKind.i64.wrap sx = sx) (h3 : IntKind.i64.wrap fx = fx) (h4 : IntKind.i64.wrap sl = sl) {b : Nat} {na sy fi : ByteArray} (hb : Blk w b tFun [.int .u64 (id : Nat), .string na, .string sy, .string fi, .int .i64 sl, .int .i64 nx, .int .i64 sx, .int .i64 fx]) (h : Bf B w bb D) (hl : D.length + 120 ≤ 100000000000) :
  Calls Tryz.prog 133 #[ptr b, ptr bb] w (Ret fun _ w' => Bf B w' bb (D ++ fnB id nx sx fx sl) ∧ Fr B wE w w') := by
 have o0 := optB_len (k := 1) (n := id) (by omega) ((by omega))
 have o1 := optB_len (k := 2) (n := (u64 nx)) (by omega) (u64_lt _)
 have o2 := optB_len (k := 3) (n := (u64 sx)) (by omega) (u64_lt _)
 have o3 := optB_len (k := 4) (n := (u64 fx)) (by omega) (u64_lt _)
 have o4 := optB_len (k := 5) (n := (u64 sl)) (by omega) (u64_lt _)
 have hF0 : Fr B wE w w := Fr.refl _ _ _
 have hc0 := mc (f := ⟨w, 0, []⟩) (fr_row (Fr.refl B wE w) rfl _ _ hb) rfl
 refine startJ (args := [_, _]) [(0, _), (1, _)] 0 [] [] func133 rfl ntmps133 rfl rfl .nil ?_
 refine cj_seqF fun K1 hK1 => cj_reg (jM rfl rfl (jM rfl rfl (jN rfl rfl (j_val rfl (fun _ _ h => r_fl (q := 0) (ft := 59) runUnderlying127 rfl sizeOf59 rfl h) (j_valw rfl (fun a w ha hH hf => r_load isAgg59 rfl (hc0 w (hf) 0 _ rfl) ha) ?_)))))
 refine j_callB (D' := D ++ optB 1 id) hF0 h call129 rfl rfl (fun w1 hf hB => uint64Opt_c B w1 bb _ 1 id (by omega) (by omega) hB (by first | omega | (simp only [List.length_append]; omega))) fun v w10 hB1 hF1 => ?_
 have hc0 := mc (f := ⟨w10, 0, []⟩) (fr_row hF1 rfl _ _ hb) rfl
 refine j_nil (ej_then (hK1 _ _ _ (CJ.s [(0, _), (1, _)] ⟨rfl, rfl, trivial⟩ (cj_seqF fun K2 hK2 => cj_reg (jM rfl rfl (jM rfl rfl (jN rfl rfl (j_val rfl (fun _ _ h => r_fl (q := 5) (ft := 2) runUnderlying127 rfl sizeOf2 rfl h) (j_valw rfl (fun a w ha hH hf => r_load isAgg2 rfl (hc0 w (hf) 5 _ rfl) ha) ?_)))))))))
 refine j_callB (D' := D ++ optB 1 id ++ optB 2 (u64 nx)) hF1 hB1 call119 rfl rfl (fun w1 hf hB => int64Opt_c B w1 bb _ 2 nx (by omega) h1 hB (by first | omega | (simp only [List.length_append]; omega))) fun v w11 hB2 hF2 => ?_
 have hc0 := mc (f := ⟨w11, 0, []⟩) (fr_row hF2 rfl _ _ hb) rfl
 refine j_nil (ej_then (hK2 _ _ _ (CJ.s [(0, _), (1, _)] ⟨rfl, rfl, trivial⟩ (cj_seqF fun K3 hK3 => cj_reg (jM rfl rfl (jM rfl rfl (jN rfl rfl (j_val rfl (fun _ _ h => r_fl (q := 6) (ft := 2) runUnderlying127 rfl sizeOf2 rfl h) (j_valw rfl (fun a w ha hH hf => r_load isAgg2 rfl (hc0 w (hf) 6 _ rfl) ha) ?_)))))))))
 refine j_callB (D' := D ++ optB 1 id ++ optB 2 (u64 nx) ++ optB 3 (u64 sx)) hF2 hB2 call119 rfl rfl (fun w1 hf hB => int64Opt_c B w1 bb _ 3 sx (by omega) h2 hB (by first | omega | (simp only [List.length_append]; omega))) fun v w12 hB3 hF3 => ?_
 have hc0 := mc (f := ⟨w12, 0, []⟩) (fr_row hF3 rfl _ _ hb) rfl
 refine j_nil (ej_then (hK3 _ _ _ (CJ.s [(0, _), (1, _)] ⟨rfl, rfl, trivial⟩ (cj_seqF fun K4 hK4 => cj_reg (jM rfl rfl (jM rfl rfl (jN rfl rfl (j_val rfl (fun _ _ h => r_fl (q := 7) (ft := 2) runUnderlying127 rfl sizeOf2 rfl h) (j_valw rfl (fun a w ha hH hf => r_load isAgg2 rfl (hc0 w (hf) 7 _ rfl) ha) ?_)))))))))
 refine j_callB (D' := D ++ optB 1 id ++ optB 2 (u64 nx) ++ optB 3 (u64 sx) ++ optB 4 (u64 fx)) hF3 hB3 call119 rfl rfl (fun w1 hf hB => int64Opt_c B w1 bb _ 4 fx (by omega) h3 hB (by first | omega | (simp only [List.length_append]; omega))) fun v w13 hB4 hF4 => ?_
 have hc0 := mc (f := ⟨w13, 0, []⟩) (fr_row hF4 rfl _ _ hb) rfl
 refine j_nil (ej_then (hK4 _ _ _ (CJ.s [(0, _), (1, _)] ⟨rfl, rfl, trivial⟩ (cj_reg (jM rfl rfl (jM rfl rfl (jN rfl rfl (j_val rfl (fun _ _ h => r_fl (q := 4) (ft := 2) runUnderlying127 rfl sizeOf2 rfl h) (j_valw rfl (fun a w ha hH hf => r_load isAgg2 rfl (hc0 w (hf) 4 _ rfl) ha) ?_)))))))))
 refine j_callB (D' := D ++ optB 1 id ++ optB 2 (u64 nx) ++ optB 3 (u64 sx) ++ optB 4 (u64 fx) ++ optB 5 (u64 sl)) hF4 hB4 call119 rfl rfl (fun w1 hf hB => int64Opt_c B w1 bb _ 5 sl (by omega) h4 hB (by first | omega | (simp only [List.length_append]; omega))) fun v w14 hB5 hF5 => ?_
 have hc0 := mc (f := ⟨w14, 0, []⟩) (fr_row hF5 rfl _ _ hb) rfl
 refine j_nil ?_
 refine ?_
 exact ej_end0 results133 fun w' hH hf => ⟨by have := hB5.fr hf; simp only [fnB, List.append_assoc] at this ⊢; exact this, frQ hF5 hf⟩
def lnB (fx : Nat) (li : Int) : List Nat := optB 1 fx ++ (optB 2 (u64 li))
theorem lnB_len (fx : Nat) (li : Int) (lfx : fx < 18446744073709551616) (h1 : IntKind.i64.wrap li = li) : (lnB fx li).length ≤ 40 := by
 have o0 := optB_len (k := 1) (n := fx) (by omega) ((by omega))
 have o1 := optB_len (k := 2) (n := (u64 li)) (by omega) (u64_lt _)
 simp only [lnB, List.length_append]; omega
theorem lnEnc_c (B : Nat) (w : World) (bb : Nat) (D : List Nat) (fx : Nat) (li : Int) (lfx : fx < 18446744073709551616) (h1 : IntKind.i64.wrap li = li) {b off : Nat} {fp : Value} (hb : ∀ w', Fr B wE w w' → ∀ (j : Nat) (u : Value), [fp, .int .i64 li, .int .u64 (fx : Nat)][j]? = some u → w'.cell? ⟨b, off + j, none⟩ = some u) (h : Bf B w bb D) (hl : D.length + 60 ≤ 100000000000) :
  Calls Tryz.prog 143 #[.pointer (some ⟨b, off, none⟩), ptr bb] w (Ret fun _ w' => Bf B w' bb (D ++ lnB fx li) ∧ Fr B wE w w') := by
 have o0 := optB_len (k := 1) (n := fx) (by omega) ((by omega))
 have o1 := optB_len (k := 2) (n := (u64 li)) (by omega) (u64_lt _)
 have hF0 : Fr B wE w w := Fr.refl _ _ _
 have hc0 := atFr (f := ⟨w, 0, []⟩) (Fr.refl B wE w) hb
 refine startJ (args := [_, _]) [(0, _), (1, _)] 0 [] [] func143 rfl ntmps143 rfl rfl .nil ?_
 refine cj_seqF fun K1 hK1 => cj_reg (jM rfl rfl (jM rfl rfl (jN rfl rfl (j_val rfl (fun _ _ h => r_fl (q := 2) (ft := 59) runUnderlying133 rfl sizeOf59 rfl h) (j_valw rfl (fun a w ha hH hf => r_load isAgg59 rfl (hc0 w (hf) 2 _ rfl) ha) ?_)))))
 refine j_callB (D' := D ++ optB 1 fx) hF0 h call129 rfl rfl (fun w1 hf hB => uint64Opt_c B w1 bb _ 1 fx (by omega) (by omega) hB (by first | omega | (simp only [List.length_append]; omega))) fun v w10 hB1 hF1 => ?_
 have hc0 := atFr (f := ⟨w10, 0, []⟩) hF1 hb
 refine j_nil (ej_then (hK1 _ _ _ (CJ.s [(0, _), (1, _)] ⟨rfl, rfl, trivial⟩ (cj_reg (jM rfl rfl (jM rfl rfl (jN rfl rfl (j_val rfl (fun _ _ h => r_fl (q := 1) (ft := 2) runUnderlying133 rfl sizeOf2 rfl h) (j_valw rfl (fun a w ha hH hf => r_load isAgg2 rfl (hc0 w (hf) 1 _ rfl) ha) ?_)))))))))
 refine j_callB (D' := D ++ optB 1 fx ++ optB 2 (u64 li)) hF1 hB1 call119 rfl rfl (fun w1 hf hB => int64Opt_c B w1 bb _ 2 li (by omega) h1 hB (by first | omega | (simp only [List.length_append]; omega))) fun v w11 hB2 hF2 => ?_
 have hc0 := atFr (f := ⟨w11, 0, []⟩) hF2 hb
 refine j_nil ?_
 refine ?_
 exact ej_end0 results143 fun w' hH hf => ⟨by have := hB2.fr hf; simp only [lnB, List.append_assoc] at this ⊢; exact this, frQ hF2 hf⟩
def lbB (kx : Int) (sx : Int) (nx : Int) : List Nat := optB 1 (u64 kx) ++ (optB 2 (u64 sx) ++ (optB 3 (u64 nx)))
theorem lbB_len (kx : Int) (sx : Int) (nx : Int) (h1 : IntKind.i64.wrap kx = kx) (h2 : IntKind.i64.wrap sx = sx) (h3 : IntKind.i64.wrap nx = nx) : (lbB kx sx nx).length ≤ 60 := by
 have o0 := optB_len (k := 1) (n := (u64 kx)) (by omega) (u64_lt _)
 have o1 := optB_len (k := 2) (n := (u64 sx)) (by omega) (u64_lt _)
 have o2 := optB_len (k := 3) (n := (u64 nx)) (by omega) (u64_lt _)
 simp only [lbB, List.length_append]; omega
theorem lbEnc_c (B : Nat) (w : World) (bb : Nat) (D : List Nat) (kx : Int) (sx : Int) (nx : Int) (h1 : IntKind.i64.wrap kx = kx) (h2 : IntKind.i64.wrap sx = sx) (h3 : IntKind.i64.wrap nx = nx)  (h : Bf B w bb D) (hl : D.length + 80 ≤ 100000000000) :
  Calls Tryz.prog 140 #[.agg #[.int .i64 kx, .int .i64 sx, .int .i64 nx], ptr bb] w (Ret fun _ w' => Bf B w' bb (D ++ lbB kx sx nx) ∧ Fr B wE w w') := by
 have o0 := optB_len (k := 1) (n := (u64 kx)) (by omega) (u64_lt _)
 have o1 := optB_len (k := 2) (n := (u64 sx)) (by omega) (u64_lt _)
 have o2 := optB_len (k := 3) (n := (u64 nx)) (by omega) (u64_lt _)
 refine startJ (args := [_, _]) [(0, _), (1, _)] 0 [] [] func140 rfl ntmps140 rfl rfl .nil ?_
 refine cj_seqF fun K1 hK1 => cj_reg ?_
 refine j_boxA (vs := [_, _, _]) rfl rfl fun b2 => ?_
 refine j_nil (ej_then (hK1 _ _ _ (CJ.s [(1, _), (2, _)] ⟨rfl, rfl, trivial⟩ (cj_seqF fun K2 hK2 => ?_))))
 intro wb hHb hfb
 have hb := hHb.get (i := 0) rfl rfl
 have hF0 : Fr B wE wb wb := Fr.refl _ _ _
 have h : Bf B wb bb D := h.fr hfb
 have hc0 := mc (f := ⟨wb, 0, []⟩) hb rfl
 refine C.begin ⟨wb, 0, []⟩ [] ok_refl .nil ?_
 refine cj_reg (jM rfl rfl (j_val rfl (fun _ _ h => r_fl (q := 0) (ft := 2) runUnderlying164 rfl sizeOf2 rfl h) (j_valw rfl (fun a w ha hH hf => r_load isAgg2 rfl (hc0 w (hf) 0 _ rfl) ha) ?_)))
 refine j_callB (D' := D ++ optB 1 (u64 kx)) hF0 h call119 rfl rfl (fun w1 hf hB => int64Opt_c B w1 bb _ 1 kx (by omega) h1 hB (by first | omega | (simp only [List.length_append]; omega))) fun v w10 hB1 hF1 => ?_
 have hc0 := mc (f := ⟨w10, 0, []⟩) (fr_row hF1 rfl _ _ hb) rfl
 refine j_nil (ej_then (hK2 _ _ _ (CJ.s [(1, _), (2, _)] ⟨rfl, rfl, trivial⟩ (cj_seqF fun K3 hK3 => cj_reg (jM rfl rfl (j_val rfl (fun _ _ h => r_fl (q := 1) (ft := 2) runUnderlying164 rfl sizeOf2 rfl h) (j_valw rfl (fun a w ha hH hf => r_load isAgg2 rfl (hc0 w (hf) 1 _ rfl) ha) ?_)))))))
 refine j_callB (D' := D ++ optB 1 (u64 kx) ++ optB 2 (u64 sx)) hF1 hB1 call119 rfl rfl (fun w1 hf hB => int64Opt_c B w1 bb _ 2 sx (by omega) h2 hB (by first | omega | (simp only [List.length_append]; omega))) fun v w11 hB2 hF2 => ?_
 have hc0 := mc (f := ⟨w11, 0, []⟩) (fr_row hF2 rfl _ _ hb) rfl
 refine j_nil (ej_then (hK3 _ _ _ (CJ.s [(1, _), (2, _)] ⟨rfl, rfl, trivial⟩ (cj_reg (jM rfl rfl (j_val rfl (fun _ _ h => r_fl (q := 2) (ft := 2) runUnderlying164 rfl sizeOf2 rfl h) (j_valw rfl (fun a w ha hH hf => r_load isAgg2 rfl (hc0 w (hf) 2 _ rfl) ha) ?_)))))))
 refine j_callB (D' := D ++ optB 1 (u64 kx) ++ optB 2 (u64 sx) ++ optB 3 (u64 nx)) hF2 hB2 call119 rfl rfl (fun w1 hf hB => int64Opt_c B w1 bb _ 3 nx (by omega) h3 hB (by first | omega | (simp only [List.length_append]; omega))) fun v w12 hB3 hF3 => ?_
 have hc0 := mc (f := ⟨w12, 0, []⟩) (fr_row hF3 rfl _ _ hb) rfl
 refine j_nil ?_
 refine ?_
 exact ej_end0 results140 fun w' hH hf => ⟨by have := hB3.fr hf; simp only [lbB, List.append_assoc] at this ⊢; exact this, frQ (frE (hfb.quiet _ _) hF3) hf⟩
end Go.Proofs.YtifnhinopjgfaaaGreat
