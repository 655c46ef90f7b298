/-
  Locations, samples and the profile itself, encoded. Conditions: the buffer's bytes are few enough for any machine.
-/
import Derived.Test.YtifnhinopjgfaaaGreatMe
namespace Go.Proofs.YtifnhinopjgfaaaGreat
open Go Go.Fw Go.Proofs Go.Proofs.Tryz
/-- a message's encode, from w on: it puts M behind the buffer's bytes -/
def Enc (B bb : Nat) (w : World) (g : FuncId) (rv : Value) (M : List Nat) : Prop := ∀ w1 D, Fr B wE w w1 → Bf B w1 bb D → D.length + M.length + 100000000 ≤ 100000000000 → Calls Tryz.prog g #[rv, ptr bb] w1 (Ret fun _ w' => Bf B w' bb (D ++ M) ∧ Fr B wE w1 w')
theorem Enc.later {B bb : Nat} {w w' : World} {g : FuncId} {rv : Value} {M : List Nat} (h : Enc B bb w g rv M) (k : Fr B wE w w') : Enc B bb w' g rv M := fun w1 D hF hB hl => h w1 D (frE k hF) hB hl
/-- lists of messages -/
def msB (tag : Nat) (Ms : List (List Nat)) : List Nat := Ms.flatMap fun M => encF (.bys tag M)
theorem msB_step {tag : Nat} {Ms : List (List Nat)} {k : Nat} (hk : k < Ms.length) : msB tag (Ms.take (k + 1)) = msB tag (Ms.take k) ++ encF (.bys tag Ms[k]) := flatMap_step' hk
theorem msB_le (tag : Nat) (Ms : List (List Nat)) (k : Nat) : (msB tag (Ms.take k)).length ≤ (msB tag Ms).length := flatMap_take_le Ms _ k
theorem encF_le (tag : Nat) (M : List Nat) : M.length ≤ (encF (.bys tag M)).length := by simp [encF]; omega
/-- the cells of a slice's elements, at any world behind a stretch that writes to the buffer alone -/
theorem osEl {α : Type} {B : Nat} {w : World} {b T sz : Nat} {xs : List α} {c : α → List Value} (hsz : ∀ a, (c a).length = sz) {k : Nat} {a : α} (hW : wE.all (fun t => !Nat.beq t T) = true) (hc : ∀ f : Fm, f.ws = w → f.W.all (fun t => !Nat.beq t T) = true → ∀ w', f.ok w' → ∀ (j : Nat) (u : Value), (xs.flatMap c)[j]? = some u → w'.cell? ⟨b, j, none⟩ = some u) (ha : xs[k]? = some a) :
  ∀ w', Fr B wE w w' → ∀ (j : Nat) (u : Value), (c a)[j]? = some u → w'.cell? ⟨b, 0 + k * sz + j, none⟩ = some u := fun w' hF j u hu => by
 rw [Nat.zero_add]
 exact hc ⟨w, B, wE⟩ rfl hW w' hF _ u (flatMap_get hsz ha j u hu)
def cLn (q : Value × Int × Nat) : List Value := [q.1, .int .i64 q.2.1, .int .u64 (q.2.2 : Nat)]
def lcB (id mx ad : Nat) (lns : List (Value × Int × Nat)) : List Nat := optB 1 id ++ (optB 2 mx ++ (optB 3 ad ++ msB 4 (lns.map fun q => lnB q.2.2 q.2.1)))
structure LnOK (lns : List (Value × Int × Nat)) : Prop where
 ok : ∀ q ∈ lns, q.2.2 < 18446744073709551616 ∧ IntKind.i64.wrap q.2.1 = q.2.1
 len : lns.length ≤ 2000000
set_option maxHeartbeats 1000000 in
theorem lcEnc_c (B : Nat) (w : World) (bb : Nat) (b : Nat) (id mx ad : Nat) (mp : Option Addr) (lv : Value) (fo : Bool) (lns : List (Value × Int × Nat)) (h1 : id < 18446744073709551616) (h2 : mx < 18446744073709551616) (h3 : ad < 18446744073709551616) (hq : LnOK lns)
  (hb : Blk w b tLoc [.int .u64 (id : Nat), .pointer mp, .int .u64 (ad : Nat), lv, .bool fo, .int .u64 (mx : Nat)]) (hs : OS tLine 3 w lv (lns.flatMap cLn)) : Enc B bb w 135 (ptr b) (lcB id mx ad lns) := by
 intro w0 D hF h hl
 have hb := fr_row hF rfl _ _ hb
 have hs := hs.mono (fr_row hF rfl)
 clear hF
 obtain ⟨ps, ls, cs, rfl, hls, hlsc, hlsx⟩ := hs.openF
 have hl3 := flatMap_len (c := cLn) (sz := 3) (fun _ => rfl) lns
 obtain rfl : ls = lns.length := by omega
 have o0 := optB_len (k := 1) (n := id) (by omega) h1
 have o1 := optB_len (k := 2) (n := mx) (by omega) h2
 have o2 := optB_len (k := 3) (n := ad) (by omega) h3
 have hlen : (lcB id mx ad lns).length = (optB 1 id).length + ((optB 2 mx).length + ((optB 3 ad).length + (msB 4 (lns.map fun q => lnB q.2.2 q.2.1)).length)) := by simp only [lcB, List.length_append]
 have hc0 := mc (f := ⟨w0, 0, []⟩) hb rfl
 refine startJ (args := [_, _]) [(0, _), (1, _)] 0 [] [] func135 rfl ntmps135 rfl rfl .nil ?_
 refine cj_seqF fun K1 hK1 => cj_reg (jM rfl rfl (jM rfl rfl (jN rfl rfl (j_val rfl (fun _ _ h => r_fl (q := 0) (ft := 59) runUnderlying131 rfl sizeOf59 rfl h) (j_valw rfl (fun a w ha hH hf => r_load isAgg59 rfl (hc0 w (hf) 0 _ rfl) ha) ?_)))))
 refine j_callB (D' := D ++ optB 1 id) (Fr.refl B wE w0) h call129 rfl rfl (fun w1 hf hB => uint64Opt_c B w1 bb _ 1 id (by omega) h1 hB (by omega)) fun v w1 hB1 hF1 => ?_
 have hc0 := mc (f := ⟨w1, 0, []⟩) (fr_row hF1 rfl _ _ hb) rfl
 refine j_nil (ej_then (hK1 _ _ _ (CJ.s [(0, _), (1, _)] ⟨rfl, rfl, trivial⟩ (cj_seqF fun K2 hK2 => cj_reg (jM rfl rfl (jM rfl rfl (jN rfl rfl (j_val rfl (fun _ _ h => r_fl (q := 5) (ft := 59) runUnderlying131 rfl sizeOf59 rfl h) (j_valw rfl (fun a w ha hH hf => r_load isAgg59 rfl (hc0 w (hf) 5 _ rfl) ha) ?_)))))))))
 refine j_callB (D' := D ++ optB 1 id ++ optB 2 mx) hF1 hB1 call129 rfl rfl (fun w1 hf hB => uint64Opt_c B w1 bb _ 2 mx (by omega) h2 hB (by simp only [List.length_append]; omega)) fun v w2 hB2 hF2 => ?_
 have hc0 := mc (f := ⟨w2, 0, []⟩) (fr_row hF2 rfl _ _ hb) rfl
 refine j_nil (ej_then (hK2 _ _ _ (CJ.s [(0, _), (1, _)] ⟨rfl, rfl, trivial⟩ (cj_seqF fun K3 hK3 => cj_reg (jM rfl rfl (jM rfl rfl (jN rfl rfl (j_val rfl (fun _ _ h => r_fl (q := 2) (ft := 59) runUnderlying131 rfl sizeOf59 rfl h) (j_valw rfl (fun a w ha hH hf => r_load isAgg59 rfl (hc0 w (hf) 2 _ rfl) ha) ?_)))))))))
 refine j_callB (D' := D ++ optB 1 id ++ optB 2 mx ++ optB 3 ad) hF2 hB2 call129 rfl rfl (fun w1 hf hB => uint64Opt_c B w1 bb _ 3 ad (by omega) h3 hB (by simp only [List.length_append]; omega)) fun v w3 hB3 hF3 => ?_
 have hc0 := mc (f := ⟨w3, 0, []⟩) (fr_row hF3 rfl _ _ hb) rfl
 refine j_nil (ej_then (hK3 _ _ _ (CJ.s [(0, _), (1, _)] ⟨rfl, rfl, trivial⟩ (cj_seqF fun K4 hK4 => cj_reg (jM rfl rfl (jN rfl rfl (j_val rfl (fun _ _ h => r_fl (q := 3) (ft := 129) runUnderlying131 rfl sizeOf129 rfl h) (j_valw rfl (fun a w ha hH hf => r_load isAgg129 rfl (hc0 w (hf) 3 _ rfl) ha) (j_val rfl (fun _ _ h => r_len runUnderlying129 rfl h) (jM rfl rfl (j_nil (ej_then (hK4 _ _ _ (CJ.s [(0, _), (1, _), (27, _), (28, _)] ⟨rfl, rfl, rfl, rfl, trivial⟩ ?_))))))))))))))
 refine cj_block ?_
 -- LOOP 0 live [0, 1, 27, 28]
 intro w4 hH4 hf4
 refine c_loop (σ := Nat) (fun k => [(0, ptr b), (1, ptr bb), (27, .int .i64 (lns.length : Nat)), (28, .int .i64 (k : Nat))])
  (fun k w' => k ≤ lns.length ∧ Bf B w' bb (D ++ optB 1 id ++ optB 2 mx ++ optB 3 ad ++ msB 4 ((lns.map fun q => lnB q.2.2 q.2.1).take k)) ∧ Fr B wE w0 w') (fun k => lns.length - k) 0 ⟨rfl, rfl, rfl, rfl, trivial⟩ ⟨Nat.zero_le _, by simpa [msB] using hB3.fr hf4, frQ hF3 hf4⟩ ?_
 rintro k w5 ⟨hk, hB5, hF5⟩ KL hKL
 have hc0 := mc (f := ⟨w5, 0, []⟩) (fr_row hF5 rfl _ _ hb) rfl
 have hql := hq.len
 refine C.begin ⟨w5, 0, []⟩ [] ok_refl .nil ?_
 refine cj_seqF fun K5 hK5 => cj_reg (j_val rfl (fun _ _ h => r_lss rfl rfl h) (j_nil (ej_then (hK5 _ _ _ (CJ.s [(0, _), (1, _), (27, _), (28, _), (29, _)] ⟨rfl, rfl, rfl, rfl, rfl, trivial⟩ (cj_seqF fun K6 hK6 => ?_))))))
 refine cj_dec rfl (fun h29 => ?_) (fun h29 => ?_)
 ·have hk' : k < lns.length := by omega
  obtain ⟨bq, rfl, hsq⟩ := hlsx (by omega)
  have hq0 := hq.ok lns[k] (List.getElem_mem hk')
  have hel := osEl (B := B) (c := cLn) (sz := 3) (fun _ => rfl) rfl hsq (List.getElem?_eq_getElem hk')
  have hst := msB_step (tag := 4) (Ms := lns.map fun q => lnB q.2.2 q.2.1) (k := k) (by simpa using hk')
  have hle := msB_le 4 (lns.map fun q => lnB q.2.2 q.2.1) (k + 1)
  have hMk : (lns.map fun q => lnB q.2.2 q.2.1)[k]'(by simpa using hk') = lnB lns[k].2.2 lns[k].2.1 := by simp
  rw [hMk] at hst
  have hst' := congrArg List.length hst
  rw [List.length_append] at hst'
  have hel' := encF_le 4 (lnB lns[k].2.2 lns[k].2.1)
  refine cj_skip (ej_then (hK6 _ _ _ (CJ.s [(0, _), (1, _), (27, _), (28, _)] ⟨rfl, rfl, rfl, rfl, trivial⟩ (cj_seqF fun K7 hK7 => cj_block (cj_seqF fun K8 hK8 => cj_reg (jM rfl rfl (jA rfl rfl (j_nil (ej_then (hK8 _ _ _ (CJ.s [(0, _), (1, _), (4, _), (27, _), (28, _)] ⟨rfl, rfl, rfl, rfl, rfl, trivial⟩ (cj_reg (jM rfl rfl (jM rfl rfl ?_))))))))))))))
  refine jN rfl rfl (j_val rfl (fun _ _ h => r_fl (q := 3) (ft := 129) runUnderlying131 rfl sizeOf129 rfl h) (j_valw rfl (fun a w ha hH hf => r_load isAgg129 rfl (hc0 w (hf) 3 _ rfl) ha) (jM rfl rfl (j_val rfl (fun _ _ h => r_idx runUnderlying129 sizeOf133 rfl rfl (by omega) h) (j_val rfl (fun _ _ h => r_mki runUnderlying223 rfl rfl h) ?_)))))
  refine j_callB (D' := D ++ optB 1 id ++ optB 2 mx ++ optB 3 ad ++ msB 4 ((lns.map fun q => lnB q.2.2 q.2.1).take (k + 1))) hF5 hB5 call117 rfl rfl (fun w1 hf hB => by
    rw [hst, ← List.append_assoc]
    exact message_c B w1 bb _ 4 _ _ _ _ _ (by omega) hB (by simp only [List.length_append]; omega) (fun w => me_Lin _ _ w) fun w2 hf2 hB2' => lnEnc_c B w2 bb _ _ _ hq0.1 hq0.2 (fun w' hF => hel w' (frE (frQ (frQ hF5 hf) hf2) hF)) hB2' (by simp only [List.length_append]; omega)) fun v w6 hB6 hF6 => ?_
  refine j_nil (ej_blk (ej_then (hK7 _ _ _ (CJ.s [(0, _), (1, _), (27, _), (28, _)] ⟨rfl, rfl, rfl, rfl, trivial⟩ (cj_reg (j_val rfl (fun _ _ h => r_inc (by omega) rfl rfl h) (jM rfl rfl (j_nil (ej_then ?_)))))))))
  exact fun w' hH hf => hKL (k + 1) _ w' ⟨hk', hB6.fr hf, frQ hF6 hf⟩ (by omega) ⟨rfl, rfl, rfl, rfl, trivial⟩
 ·have hke : k = lns.length := by omega
  subst hke
  rw [List.take_of_length_le (by simp)] at hB5
  refine cj_exit (ej_then_exit (ej_then_exit (ej_blk_hit (?_))))
  exact ej_end0 results135 fun w' hH hf => ⟨by have := hB5.fr hf; simp only [lcB, List.append_assoc] at this ⊢; exact this, frQ hF5 hf⟩
def cLb (q : Int × Int × Int) : List Value := [.int .i64 q.1, .int .i64 q.2.1, .int .i64 q.2.2]
def zsB (tag : Nat) (zs : List Int) : List Nat := zs.flatMap fun z => numB tag (u64 z)
theorem zsB_len {tag : Nat} (ht : tag < 1048576) (zs : List Int) : (zsB tag zs).length ≤ 20 * zs.length := by
 induction zs with
 | nil => simp [zsB]
 | cons z r ih =>
  have := numB_len ht (u64_lt z)
  have h : (zsB tag (z :: r)).length = (numB tag (u64 z)).length + (zsB tag r).length := by simp [zsB]
  rw [h, List.length_cons]; omega
theorem usB_len {tag : Nat} (ht : tag < 1048576) {ns : List Nat} (h : ∀ n ∈ ns, n < 18446744073709551616) (hl : ns.length ≤ 2000000) : (usB tag ns).length ≤ 20 * ns.length + 20 := by
 unfold usB
 split
 ·have := vints_len h
  have h2 := lenB_short (len := (ns.flatMap vint).length) ht (by omega)
  have : (encF (.bys tag (ns.flatMap vint))).length = (lenB (ns.flatMap vint).length tag).length + (ns.flatMap vint).length := by simp [encF, lenB]; omega
  omega
 ·have := numBs_len ht h; omega
def smB (ns : List Nat) (zs : List Int) (lbs : List (Int × Int × Int)) : List Nat := usB 1 ns ++ (zsB 2 zs ++ msB 3 (lbs.map fun q => lbB q.1 q.2.1 q.2.2))
structure SmOK (ns : List Nat) (zs : List Int) (lbs : List (Int × Int × Int)) : Prop where
 okn : ∀ n ∈ ns, n < 18446744073709551616
 okl : ∀ q ∈ lbs, IntKind.i64.wrap q.1 = q.1 ∧ IntKind.i64.wrap q.2.1 = q.2.1 ∧ IntKind.i64.wrap q.2.2 = q.2.2
 l1 : ns.length ≤ 2000000
 l2 : zs.length ≤ 2000000
 l3 : lbs.length ≤ 2000000
set_option maxHeartbeats 1000000 in
theorem smEnc_c (B : Nat) (w : World) (bb : Nat) (b : Nat) (lo vv la na nu iv xv : Value) (ns : List Nat) (zs : List Int) (lbs : List (Int × Int × Int)) (hq : SmOK ns zs lbs)
  (hb : Blk w b tSam [lo, vv, la, na, nu, iv, xv]) (hi : OS tU64 1 w iv (ns.map fun (n : Nat) => Value.int .u64 (n : Int))) (hv : OS tI64 1 w vv (zs.map (.int .i64))) (hx : OS tLabel 3 w xv (lbs.flatMap cLb)) : Enc B bb w 137 (ptr b) (smB ns zs lbs) := by
 intro w0 D hF h hl
 have hb := fr_row hF rfl _ _ hb
 have hi := hi.mono (fr_row hF rfl)
 have hv := hv.mono (fr_row hF rfl)
 have hx := hx.mono (fr_row hF rfl)
 clear hF
 obtain ⟨pz, lz, cz, rfl, hlz, -, hzx⟩ := hv.openF
 obtain rfl : lz = zs.length := by simpa using hlz.symm
 obtain ⟨pl, ll, cl, rfl, hll, -, hlx⟩ := hx.openF
 have hl3 := flatMap_len (c := cLb) (sz := 3) (fun _ => rfl) lbs
 obtain rfl : ll = lbs.length := by omega
 have o0 := usB_len (tag := 1) (by omega) hq.okn (by have := hq.l1; omega)
 have o1 := zsB_len (tag := 2) (by omega) zs
 have q1 := hq.l1
 have q2 := hq.l2
 have q3 := hq.l3
 have hlen : (smB ns zs lbs).length = (usB 1 ns).length + ((zsB 2 zs).length + (msB 3 (lbs.map fun q => lbB q.1 q.2.1 q.2.2)).length) := by simp only [smB, List.length_append]
 have hc0 := mc (f := ⟨w0, 0, []⟩) hb rfl
 refine startJ (args := [_, _]) [(0, _), (1, _)] 0 [] [] func137 rfl ntmps137 rfl rfl .nil ?_
 refine cj_seqF fun K1 hK1 => cj_reg (jM rfl rfl (jM rfl rfl (jN rfl rfl (j_val rfl (fun _ _ h => r_fl (q := 5) (ft := 67) runUnderlying139 rfl sizeOf67 rfl h) (j_valw rfl (fun a w ha hH hf => r_load isAgg67 rfl (hc0 w (hf) 5 _ rfl) ha) ?_)))))
 refine j_callB (D' := D ++ usB 1 ns) (Fr.refl B wE w0) h call138 rfl rfl (fun w1 hf hB => uint64s_c B w1 bb _ 1 _ ns (by omega) (hi.mono fun b cs h => hf.blk h (.inr (by simp))) hq.okn hB (by omega)) fun v w1 hB1 hF1 => ?_
 have hc0 := mc (f := ⟨w1, 0, []⟩) (fr_row hF1 rfl _ _ hb) rfl
 refine j_nil (ej_then (hK1 _ _ _ (CJ.s [(0, _), (1, _)] ⟨rfl, rfl, trivial⟩ (cj_seqF fun K2 hK2 => cj_seqF fun K3 hK3 => cj_reg (jM rfl rfl (jN rfl rfl (j_val rfl (fun _ _ h => r_fl (q := 1) (ft := 46) runUnderlying139 rfl sizeOf46 rfl h) (j_valw rfl (fun a w ha hH hf => r_load isAgg46 rfl (hc0 w (hf) 1 _ rfl) ha) (j_val rfl (fun _ _ h => r_len runUnderlying46 rfl h) (jM rfl rfl (j_nil (ej_then (hK3 _ _ _ ?_)))))))))))))
 refine CJ.s [(0, _), (1, _), (17, _), (18, _), (19, _)] ⟨rfl, rfl, rfl, rfl, rfl, trivial⟩ (cj_block ?_)
 -- LOOP 0 live [0, 1, 17, 18, 19]
 intro w2 hH2 hf2
 refine c_loop (σ := Nat) (fun k => [(0, ptr b), (1, ptr bb), (17, .slice pz zs.length cz), (18, .int .i64 (zs.length : Nat)), (19, .int .i64 (k : Nat))])
  (fun k w' => k ≤ zs.length ∧ Bf B w' bb (D ++ usB 1 ns ++ zsB 2 (zs.take k)) ∧ Fr B wE w0 w') (fun k => zs.length - k) 0 ⟨rfl, rfl, rfl, rfl, rfl, trivial⟩ ⟨Nat.zero_le _, by simpa [zsB] using hB1.fr hf2, frQ hF1 hf2⟩ ?_
 rintro k w3 ⟨hk, hB3, hF3⟩ KL hKL
 have hc0 := mc (f := ⟨w3, 0, []⟩) (fr_row hF3 rfl _ _ hb) rfl
 refine C.begin ⟨w3, 0, []⟩ [] ok_refl .nil ?_
 refine cj_seqF fun K4 hK4 => cj_reg (j_val rfl (fun _ _ h => r_lss rfl rfl h) (j_nil (ej_then (hK4 _ _ _ (CJ.s [(0, _), (1, _), (17, _), (18, _), (19, _), (20, _)] ⟨rfl, rfl, rfl, rfl, rfl, rfl, trivial⟩ (cj_seqF fun K5 hK5 => ?_))))))
 refine cj_dec rfl (fun h20 => ?_) (fun h20 => ?_)
 ·have hk' : k < zs.length := by omega
  obtain ⟨bq, rfl, hsq⟩ := hzx (by omega)
  have hcell := osCell (k := k) (v := .int .i64 zs[k]) hF3 rfl hsq (by simp [hk'])
  have hst : zsB 2 (zs.take (k + 1)) = zsB 2 (zs.take k) ++ numB 2 (u64 zs[k]) := flatMap_step' hk'
  have hle : (zsB 2 (zs.take k)).length ≤ (zsB 2 zs).length := flatMap_take_le zs _ k
  refine cj_skip (ej_then (hK5 _ _ _ (CJ.s [(0, _), (1, _), (17, _), (18, _), (19, _)] ⟨rfl, rfl, rfl, rfl, rfl, trivial⟩ (cj_seqF fun K6 hK6 => cj_block (cj_seqF fun K7 hK7 => cj_reg (j_val rfl (fun _ _ h => r_idx runUnderlying46 sizeOf2 rfl rfl (by omega) h) (j_valw rfl (fun a w ha hH hf => r_load isAgg2 rfl (hcell w (hf) 0 _ rfl) ha) (jA rfl rfl (j_nil (ej_then (hK7 _ _ _ (CJ.s [(0, _), (1, _), (5, _), (17, _), (18, _), (19, _)] ⟨rfl, rfl, rfl, rfl, rfl, rfl, trivial⟩ (cj_reg (jM rfl rfl ?_))))))))))))))
  refine jM rfl rfl ?_
  refine j_callB (D' := D ++ usB 1 ns ++ zsB 2 (zs.take (k + 1))) hF3 hB3 call122 rfl rfl (fun w4 hf hB => by rw [hst, ← List.append_assoc]; exact int64_c B w4 bb _ 2 zs[k] (by omega) hB (by simp only [List.length_append]; omega)) fun v w4 hB4 hF4 => ?_
  refine j_nil (ej_blk (ej_then (hK6 _ _ _ (CJ.s [(0, _), (1, _), (17, _), (18, _), (19, _)] ⟨rfl, rfl, rfl, rfl, rfl, trivial⟩ (cj_reg (j_val rfl (fun _ _ h => r_inc (by omega) rfl rfl h) (jM rfl rfl (j_nil (ej_then ?_)))))))))
  exact fun w' hH hf => hKL (k + 1) _ w' ⟨hk', hB4.fr hf, frQ hF4 hf⟩ (by omega) ⟨rfl, rfl, rfl, rfl, rfl, trivial⟩
 ·have hke : k = zs.length := by omega
  subst hke
  rw [List.take_of_length_le (Nat.le_refl _)] at hB3
  refine cj_exit (ej_then_exit (ej_then_exit (ej_blk_hit (ej_then (hK2 _ _ _ (CJ.s [(0, _), (1, _)] ⟨rfl, rfl, trivial⟩ (cj_seqF fun K8 hK8 => cj_reg (jM rfl rfl (jN rfl rfl (j_val rfl (fun _ _ h => r_fl (q := 6) (ft := 137) runUnderlying139 rfl sizeOf137 rfl h) (j_valw rfl (fun a w ha hH hf => r_load isAgg137 rfl (hc0 w (hf) 6 _ rfl) ha) (j_val rfl (fun _ _ h => r_len runUnderlying137 rfl h) (jM rfl rfl (j_nil (ej_then (hK8 _ _ _ (CJ.s [(1, _), (30, _), (31, _), (32, _)] ⟨rfl, rfl, rfl, rfl, trivial⟩ (cj_block ?_))))))))))))))))))
  -- LOOP 1 live [1, 30, 31, 32]
  intro w5 hH5 hf5
  refine c_loop (σ := Nat) (fun k => [(1, ptr bb), (30, .slice pl lbs.length cl), (31, .int .i64 (lbs.length : Nat)), (32, .int .i64 (k : Nat))])
   (fun k w' => k ≤ lbs.length ∧ Bf B w' bb (D ++ usB 1 ns ++ zsB 2 zs ++ msB 3 ((lbs.map fun q => lbB q.1 q.2.1 q.2.2).take k)) ∧ Fr B wE w0 w') (fun k => lbs.length - k) 0 ⟨rfl, rfl, rfl, rfl, trivial⟩ ⟨Nat.zero_le _, by simpa [msB] using hB3.fr hf5, frQ hF3 hf5⟩ ?_
  rintro k w6 ⟨hk, hB6, hF6⟩ KL hKL
  refine C.begin ⟨w6, 0, []⟩ [] ok_refl .nil ?_
  refine cj_seqF fun K9 hK9 => cj_reg (j_val rfl (fun _ _ h => r_lss rfl rfl h) (j_nil (ej_then (hK9 _ _ _ (CJ.s [(1, _), (30, _), (31, _), (32, _), (33, _)] ⟨rfl, rfl, rfl, rfl, rfl, trivial⟩ (cj_seqF fun K10 hK10 => ?_))))))
  refine cj_dec rfl (fun h33 => ?_) (fun h33 => ?_)
  ·have hk' : k < lbs.length := by omega
   obtain ⟨bq, rfl, hsq⟩ := hlx (by omega)
   have hq0 := hq.okl lbs[k] (List.getElem_mem hk')
   have hel := osEl (B := B) (c := cLb) (sz := 3) (fun _ => rfl) rfl hsq (List.getElem?_eq_getElem hk')
   have hcell : ∀ w', Fm.ok ⟨w6, 0, []⟩ w' → ∀ (j : Nat) (u : Value), (cLb lbs[k])[j]? = some u → w'.cell? ⟨bq, 0 + k * 3 + j, none⟩ = some u := fun w' hf => hel w' (frQ hF6 hf)
   have hst := msB_step (tag := 3) (Ms := lbs.map fun q => lbB q.1 q.2.1 q.2.2) (k := k) (by simpa using hk')
   have hle := msB_le 3 (lbs.map fun q => lbB q.1 q.2.1 q.2.2) (k + 1)
   have hMk : (lbs.map fun q => lbB q.1 q.2.1 q.2.2)[k]'(by simpa using hk') = lbB lbs[k].1 lbs[k].2.1 lbs[k].2.2 := by simp
   rw [hMk] at hst
   have hst' := congrArg List.length hst
   rw [List.length_append] at hst'
   have hel' := encF_le 3 (lbB lbs[k].1 lbs[k].2.1 lbs[k].2.2)
   refine cj_skip (ej_then (hK10 _ _ _ (CJ.s [(1, _), (30, _), (31, _), (32, _)] ⟨rfl, rfl, rfl, rfl, trivial⟩ (cj_seqF fun K11 hK11 => cj_block (cj_seqF fun K12 hK12 => cj_reg (j_val rfl (fun _ _ h => r_idx runUnderlying137 sizeOf164 rfl rfl (by omega) h) (j_valw rfl (fun a w ha hH hf => r_loadA isAgg164 sizeOf164 rfl rfl (hcell w (hf)) ha) ?_)))))))
   refine j_allocA (zs := [(.int .i64 0), (.int .i64 0), (.int .i64 0)]) zeroValue164 rfl fun b7 => ?_
   refine j_storeN (cs' := [_, _, _]) (H' := [_]) 0 rfl rfl rfl rfl sizeOf164 rfl rfl rfl rfl rfl rfl rfl ?_
   refine j_nil (ej_then (hK12 _ _ _ (CJ.s [(1, _), (7, _), (30, _), (31, _), (32, _)] ⟨rfl, rfl, rfl, rfl, rfl, trivial⟩ (cj_reg (jM rfl rfl (j_valw rfl (fun a w ha hH hf => r_ldA (vs := [_, _, _]) 0 rfl rfl isAgg164 sizeOf164 rfl rfl rfl ha hH) (j_val rfl (fun _ _ h => r_mki runUnderlying164 rfl rfl h) ?_)))))))
   refine j_callB (D' := D ++ usB 1 ns ++ zsB 2 zs ++ msB 3 ((lbs.map fun q => lbB q.1 q.2.1 q.2.2).take (k + 1))) hF6 hB6 call117 rfl rfl (fun w1 hf hB => by
     rw [hst, ← List.append_assoc]
     exact message_c B w1 bb _ 3 _ _ _ _ _ (by omega) hB (by simp only [List.length_append]; omega) (fun w => me_Lab _ _ w) fun w2 hf2 hB2' => lbEnc_c B w2 bb _ _ _ _ hq0.1 hq0.2.1 hq0.2.2 hB2' (by simp only [List.length_append]; omega)) fun v w7 hB7 hF7 => ?_
   refine j_nil (ej_blk (ej_then (hK11 _ _ _ (CJ.s [(1, _), (30, _), (31, _), (32, _)] ⟨rfl, rfl, rfl, rfl, trivial⟩ (cj_reg (j_val rfl (fun _ _ h => r_inc (by omega) rfl rfl h) (jM rfl rfl (j_nil (ej_then ?_)))))))))
   exact fun w' hH hf => hKL (k + 1) _ w' ⟨hk', hB7.fr hf, frQ hF7 hf⟩ (by omega) ⟨rfl, rfl, rfl, rfl, trivial⟩
  ·have hke : k = lbs.length := by omega
   subst hke
   rw [List.take_of_length_le (by simp)] at hB6
   refine cj_exit (ej_then_exit (ej_then_exit (ej_blk_hit (?_))))
   exact ej_end0 results137 fun w' hH hf => ⟨by have := hB6.fr hf; simp only [smB, List.append_assoc] at this ⊢; exact this, frQ hF6 hf⟩

structure EncAll (B bb : Nat) (w : World) (g : FuncId) (bs : List Nat) (Ms : List (List Nat)) : Prop where
 len : bs.length = Ms.length
 each : ∀ (i : Nat) b M, bs[i]? = some b → Ms[i]? = some M → Enc B bb w g (ptr b) M
 few : Ms.length ≤ 2000000
structure PIn where (ts ss ms ls fs : List (List Nat)) (tab : List ByteArray) (dx kx ti du pe tx ux : Int)
def pfB (q : PIn) : List Nat := msB 1 q.ts ++ (msB 2 q.ss ++ (msB 3 q.ms ++ (msB 4 q.ls ++ (msB 5 q.fs ++ (strsB 6 q.tab ++ (optB 7 (u64 q.dx) ++ (optB 8 (u64 q.kx) ++ (optB 9 (u64 q.ti) ++ (optB 10 (u64 q.du) ++ ((if q.tx ≠ 0 ∨ q.ux ≠ 0 then encF (.bys 11 (vtB q.tx q.ux)) else []) ++ optB 12 (u64 q.pe)))))))))))
structure PInOK (q : PIn) : Prop where
 w1 : IntKind.i64.wrap q.dx = q.dx
 w2 : IntKind.i64.wrap q.kx = q.kx
 w3 : IntKind.i64.wrap q.ti = q.ti
 w4 : IntKind.i64.wrap q.du = q.du
 w5 : IntKind.i64.wrap q.pe = q.pe
 w6 : IntKind.i64.wrap q.tx = q.tx
 w7 : IntKind.i64.wrap q.ux = q.ux
set_option maxHeartbeats 4000000 in
theorem pfEnc_c (B : Nat) (w : World) (bb : Nat) (b per : Nat) (q : PIn) (df dr ke ty un : ByteArray) (tv sv mv lv fv cv cx sx : Value) (dsx : Int) (bt bs bm bl bf : List Nat) (hq : PInOK q)
  (hb : Blk w b tProf [tv, .string df, sv, mv, lv, fv, cv, .string dr, .string ke, .int .i64 q.ti, .int .i64 q.du, ptr per, .int .i64 q.pe, cx, .int .i64 q.dx, .int .i64 q.kx, sx, .int .i64 dsx]) (hper : Blk w per tVT [.string ty, .string un, .int .i64 q.tx, .int .i64 q.ux])
  (h1 : OS pVT 1 w tv (bt.map ptr)) (h2 : OS pSam 1 w sv (bs.map ptr)) (h3 : OS pMap 1 w mv (bm.map ptr)) (h4 : OS pLoc 1 w lv (bl.map ptr)) (h5 : OS pFun 1 w fv (bf.map ptr)) (h6 : OS tStr 1 w sx (q.tab.map .string))
  (e1 : EncAll B bb w 126 bt q.ts) (e2 : EncAll B bb w 137 bs q.ss) (e3 : EncAll B bb w 128 bm q.ms) (e4 : EncAll B bb w 135 bl q.ls) (e5 : EncAll B bb w 133 bf q.fs) : Enc B bb w 116 (ptr b) (pfB q) := by
 intro w0 D hF h hl
 have hb := fr_row hF rfl _ _ hb
 have hper := fr_row hF rfl _ _ hper
 have h6 := h6.mono (fr_row hF rfl)
 have h1 := h1.mono (fr_row hF rfl)
 obtain ⟨p1, l1, c1, rfl, hl1, -, hx1⟩ := h1.openF
 obtain rfl : l1 = q.ts.length := by have := e1.len; simp at hl1; omega
 have h2 := h2.mono (fr_row hF rfl)
 obtain ⟨p2, l2, c2, rfl, hl2, -, hx2⟩ := h2.openF
 obtain rfl : l2 = q.ss.length := by have := e2.len; simp at hl2; omega
 have h3 := h3.mono (fr_row hF rfl)
 obtain ⟨p3, l3, c3, rfl, hl3, -, hx3⟩ := h3.openF
 obtain rfl : l3 = q.ms.length := by have := e3.len; simp at hl3; omega
 have h4 := h4.mono (fr_row hF rfl)
 obtain ⟨p4, l4, c4, rfl, hl4, -, hx4⟩ := h4.openF
 obtain rfl : l4 = q.ls.length := by have := e4.len; simp at hl4; omega
 have h5 := h5.mono (fr_row hF rfl)
 obtain ⟨p5, l5, c5, rfl, hl5, -, hx5⟩ := h5.openF
 obtain rfl : l5 = q.fs.length := by have := e5.len; simp at hl5; omega
 have o7 := optB_len (k := 7) (n := u64 q.dx) (by omega) (u64_lt _)
 have o8 := optB_len (k := 8) (n := u64 q.kx) (by omega) (u64_lt _)
 have o9 := optB_len (k := 9) (n := u64 q.ti) (by omega) (u64_lt _)
 have o10 := optB_len (k := 10) (n := u64 q.du) (by omega) (u64_lt _)
 have o12 := optB_len (k := 12) (n := u64 q.pe) (by omega) (u64_lt _)
 have o11 := vtB_len q.tx q.ux hq.w6 hq.w7
 have hpl : (pfB q).length = (msB 1 q.ts).length + ((msB 2 q.ss).length + ((msB 3 q.ms).length + ((msB 4 q.ls).length + ((msB 5 q.fs).length + ((strsB 6 q.tab).length + ((optB 7 (u64 q.dx)).length + ((optB 8 (u64 q.kx)).length + ((optB 9 (u64 q.ti)).length + ((optB 10 (u64 q.du)).length + ((if q.tx ≠ 0 ∨ q.ux ≠ 0 then encF (.bys 11 (vtB q.tx q.ux)) else []).length + (optB 12 (u64 q.pe)).length)))))))))) := by simp only [pfB, List.length_append]
 rw [hpl] at hl
 clear hpl
 have few1 := e1.few
 have few2 := e2.few
 have few3 := e3.few
 have few4 := e4.few
 have few5 := e5.few
 have hc0 := mc (f := ⟨w0, 0, []⟩) hb rfl
 refine startJ (args := [_, _]) [(0, _), (1, _)] 0 [] [] func116 rfl ntmps116 rfl rfl .nil ?_
 refine cj_seqF fun K1 hK1 => cj_seqF fun K2 hK2 => cj_reg (jM rfl rfl (jN rfl rfl (j_val rfl (fun _ _ h => r_fl (q := 0) (ft := 115) runUnderlying121 rfl sizeOf115 rfl h) (j_valw rfl (fun a w ha hH hf => r_load isAgg115 rfl (hc0 w (hf) 0 _ rfl) ha) (j_val rfl (fun _ _ h => r_len runUnderlying115 rfl h) (jM rfl rfl (j_nil (ej_then (hK2 _ _ _ (CJ.s [(0, _), (1, _), (18, _), (19, _), (20, _)] ⟨rfl, rfl, rfl, rfl, rfl, trivial⟩ (cj_block ?_)))))))))))
 -- LOOP 0 live [0, 1, 18, 19, 20]
 intro v1 hH1' hf1'
 refine c_loop (σ := Nat) (fun k => [(0, ptr b), (1, ptr bb), (18, .slice p1 q.ts.length c1), (19, .int .i64 (q.ts.length : Nat)), (20, .int .i64 (k : Nat))])
  (fun k w' => k ≤ q.ts.length ∧ Bf B w' bb (D ++ msB 1 (q.ts.take k)) ∧ Fr B wE w0 w') (fun k => q.ts.length - k) 0 ⟨rfl, rfl, rfl, rfl, rfl, trivial⟩ ⟨Nat.zero_le _, by simpa [msB] using h.fr hf1', frQ (Fr.refl B wE w0) hf1'⟩ ?_
 rintro k u1 ⟨hk1, hB1, hF1⟩ KL hKL
 have hc0 := mc (f := ⟨u1, 0, []⟩) (fr_row hF1 rfl _ _ hb) rfl
 refine C.begin ⟨u1, 0, []⟩ [] ok_refl .nil ?_
 refine cj_seqF fun K3 hK3 => cj_reg (j_val rfl (fun _ _ h => r_lss rfl rfl h) (j_nil (ej_then (hK3 _ _ _ (CJ.s [(0, _), (1, _), (18, _), (19, _), (20, _), (21, _)] ⟨rfl, rfl, rfl, rfl, rfl, rfl, trivial⟩ (cj_seqF fun K4 hK4 => ?_))))))
 refine cj_dec rfl (fun h21' => ?_) (fun h21' => ?_)
 ·have hk' : k < q.ts.length := by omega
  obtain ⟨bq, rfl, hsq⟩ := hx1 (by omega)
  have hkb : k < bt.length := by rw [e1.len]; exact hk'
  have hcell := osCell (k := k) (v := ptr bt[k]) hF1 rfl hsq (by simp [hkb])
  have hst := msB_step (tag := 1) (Ms := q.ts) (k := k) hk'
  have hle := msB_le 1 q.ts (k + 1)
  have hst' := congrArg List.length hst
  rw [List.length_append] at hst'
  have hel' := encF_le 1 q.ts[k]
  have hen := e1.each k _ _ (List.getElem?_eq_getElem hkb) (List.getElem?_eq_getElem hk')
  refine cj_skip (ej_then (hK4 _ _ _ (CJ.s [(0, _), (1, _), (18, _), (19, _), (20, _)] ⟨rfl, rfl, rfl, rfl, rfl, trivial⟩ (cj_seqF fun K5 hK5 => cj_block (cj_seqF fun K6 hK6 => cj_reg (j_val rfl (fun _ _ h => r_idx runUnderlying115 sizeOf113 rfl rfl (by omega) h) (j_valw rfl (fun a w ha hH hf => r_load isAgg113 rfl (hcell w (hf) 0 _ rfl) ha) (jA rfl rfl (j_nil (ej_then (hK6 _ _ _ (CJ.s [(0, _), (1, _), (5, _), (18, _), (19, _), (20, _)] ⟨rfl, rfl, rfl, rfl, rfl, rfl, trivial⟩ (cj_reg (jM rfl rfl ?_))))))))))))))
  refine jM rfl rfl (j_val rfl (fun _ _ h => r_mki runUnderlying113 rfl rfl h) ?_)
  refine j_callB (D' := D ++ msB 1 (q.ts.take (k + 1))) hF1 hB1 call117 rfl rfl (fun w1 hf hB => by
    rw [hst, ← List.append_assoc]
    exact message_c B w1 bb _ 1 _ _ _ _ _ (by omega) hB (by simp only [List.length_append]; omega) (fun w => me_VT _ _ w) fun w2 hf2 hB2' => hen w2 _ (frQ (frQ (frE hF hF1) hf) hf2) hB2' (by simp only [List.length_append]; omega)) fun v w7 hB7 hF7 => ?_
  refine j_nil (ej_blk (ej_then (hK5 _ _ _ (CJ.s [(0, _), (1, _), (18, _), (19, _), (20, _)] ⟨rfl, rfl, rfl, rfl, rfl, trivial⟩ (cj_reg (j_val rfl (fun _ _ h => r_inc (by omega) rfl rfl h) (jM rfl rfl (j_nil (ej_then ?_)))))))))
  exact fun w' hH hf => hKL (k + 1) _ w' ⟨hk', hB7.fr hf, frQ hF7 hf⟩ (by omega) ⟨rfl, rfl, rfl, rfl, rfl, trivial⟩
 ·have hke1 : k = q.ts.length := by omega
  rw [hke1, List.take_of_length_le (Nat.le_refl _)] at hB1
  clear hKL hke1 hk1
  refine cj_exit (ej_then_exit (ej_then_exit (ej_blk_hit (ej_then (hK1 _ _ _ (CJ.s [(0, _), (1, _)] ⟨rfl, rfl, trivial⟩ (cj_seqF fun K7 hK7 => cj_seqF fun K8 hK8 => cj_reg (jM rfl rfl (jN rfl rfl (j_val rfl (fun _ _ h => r_fl (q := 2) (ft := 116) runUnderlying121 rfl sizeOf116 rfl h) (j_valw rfl (fun a w ha hH hf => r_load isAgg116 rfl (hc0 w (hf) 2 _ rfl) ha) (j_val rfl (fun _ _ h => r_len runUnderlying116 rfl h) (jM rfl rfl (j_nil (ej_then (hK8 _ _ _ (CJ.s [(0, _), (1, _), (32, _), (33, _), (34, _)] ⟨rfl, rfl, rfl, rfl, rfl, trivial⟩ ?_)))))))))))))))))
  refine cj_block ?_
  -- LOOP 1 live [0, 1, 32, 33, 34]
  intro v2 hH2' hf2'
  refine c_loop (σ := Nat) (fun k => [(0, ptr b), (1, ptr bb), (32, .slice p2 q.ss.length c2), (33, .int .i64 (q.ss.length : Nat)), (34, .int .i64 (k : Nat))])
   (fun k w' => k ≤ q.ss.length ∧ Bf B w' bb (D ++ msB 1 q.ts ++ msB 2 (q.ss.take k)) ∧ Fr B wE w0 w') (fun k => q.ss.length - k) 0 ⟨rfl, rfl, rfl, rfl, rfl, trivial⟩ ⟨Nat.zero_le _, by simpa [msB] using hB1.fr hf2', frQ hF1 hf2'⟩ ?_
  rintro k u2 ⟨hk2, hB2, hF2⟩ KL hKL
  have hc0 := mc (f := ⟨u2, 0, []⟩) (fr_row hF2 rfl _ _ hb) rfl
  refine C.begin ⟨u2, 0, []⟩ [] ok_refl .nil ?_
  refine cj_seqF fun K9 hK9 => cj_reg (j_val rfl (fun _ _ h => r_lss rfl rfl h) (j_nil (ej_then (hK9 _ _ _ (CJ.s [(0, _), (1, _), (32, _), (33, _), (34, _), (35, _)] ⟨rfl, rfl, rfl, rfl, rfl, rfl, trivial⟩ (cj_seqF fun K10 hK10 => ?_))))))
  refine cj_dec rfl (fun h35' => ?_) (fun h35' => ?_)
  ·have hk' : k < q.ss.length := by omega
   obtain ⟨bq, rfl, hsq⟩ := hx2 (by omega)
   have hkb : k < bs.length := by rw [e2.len]; exact hk'
   have hcell := osCell (k := k) (v := ptr bs[k]) hF2 rfl hsq (by simp [hkb])
   have hst := msB_step (tag := 2) (Ms := q.ss) (k := k) hk'
   have hle := msB_le 2 q.ss (k + 1)
   have hst' := congrArg List.length hst
   rw [List.length_append] at hst'
   have hel' := encF_le 2 q.ss[k]
   have hen := e2.each k _ _ (List.getElem?_eq_getElem hkb) (List.getElem?_eq_getElem hk')
   refine cj_skip (ej_then (hK10 _ _ _ (CJ.s [(0, _), (1, _), (32, _), (33, _), (34, _)] ⟨rfl, rfl, rfl, rfl, rfl, trivial⟩ (cj_seqF fun K11 hK11 => cj_block (cj_seqF fun K12 hK12 => cj_reg (j_val rfl (fun _ _ h => r_idx runUnderlying116 sizeOf134 rfl rfl (by omega) h) (j_valw rfl (fun a w ha hH hf => r_load isAgg134 rfl (hcell w (hf) 0 _ rfl) ha) (jA rfl rfl (j_nil (ej_then (hK12 _ _ _ (CJ.s [(0, _), (1, _), (7, _), (32, _), (33, _), (34, _)] ⟨rfl, rfl, rfl, rfl, rfl, rfl, trivial⟩ (cj_reg (jM rfl rfl ?_))))))))))))))
   refine jM rfl rfl (j_val rfl (fun _ _ h => r_mki runUnderlying134 rfl rfl h) ?_)
   refine j_callB (D' := D ++ msB 1 q.ts ++ msB 2 (q.ss.take (k + 1))) hF2 hB2 call117 rfl rfl (fun w1 hf hB => by
     rw [hst, ← List.append_assoc]
     exact message_c B w1 bb _ 2 _ _ _ _ _ (by omega) hB (by simp only [List.length_append]; omega) (fun w => me_Sam _ _ w) fun w2 hf2 hB2' => hen w2 _ (frQ (frQ (frE hF hF2) hf) hf2) hB2' (by simp only [List.length_append]; omega)) fun v w7 hB7 hF7 => ?_
   refine j_nil (ej_blk (ej_then (hK11 _ _ _ (CJ.s [(0, _), (1, _), (32, _), (33, _), (34, _)] ⟨rfl, rfl, rfl, rfl, rfl, trivial⟩ (cj_reg (j_val rfl (fun _ _ h => r_inc (by omega) rfl rfl h) (jM rfl rfl (j_nil (ej_then ?_)))))))))
   exact fun w' hH hf => hKL (k + 1) _ w' ⟨hk', hB7.fr hf, frQ hF7 hf⟩ (by omega) ⟨rfl, rfl, rfl, rfl, rfl, trivial⟩
  ·have hke2 : k = q.ss.length := by omega
   rw [hke2, List.take_of_length_le (Nat.le_refl _)] at hB2
   clear hKL hke2 hk2
   refine cj_exit (ej_then_exit (ej_then_exit (ej_blk_hit (ej_then (hK7 _ _ _ (CJ.s [(0, _), (1, _)] ⟨rfl, rfl, trivial⟩ (cj_seqF fun K13 hK13 => cj_seqF fun K14 hK14 => cj_reg (jM rfl rfl (jN rfl rfl (j_val rfl (fun _ _ h => r_fl (q := 3) (ft := 117) runUnderlying121 rfl sizeOf117 rfl h) (j_valw rfl (fun a w ha hH hf => r_load isAgg117 rfl (hc0 w (hf) 3 _ rfl) ha) (j_val rfl (fun _ _ h => r_len runUnderlying117 rfl h) (jM rfl rfl (j_nil (ej_then (hK14 _ _ _ (CJ.s [(0, _), (1, _), (46, _), (47, _), (48, _)] ⟨rfl, rfl, rfl, rfl, rfl, trivial⟩ ?_)))))))))))))))))
   refine cj_block ?_
   -- LOOP 2 live [0, 1, 46, 47, 48]
   intro v3 hH3' hf3'
   refine c_loop (σ := Nat) (fun k => [(0, ptr b), (1, ptr bb), (46, .slice p3 q.ms.length c3), (47, .int .i64 (q.ms.length : Nat)), (48, .int .i64 (k : Nat))])
    (fun k w' => k ≤ q.ms.length ∧ Bf B w' bb (D ++ msB 1 q.ts ++ msB 2 q.ss ++ msB 3 (q.ms.take k)) ∧ Fr B wE w0 w') (fun k => q.ms.length - k) 0 ⟨rfl, rfl, rfl, rfl, rfl, trivial⟩ ⟨Nat.zero_le _, by simpa [msB] using hB2.fr hf3', frQ hF2 hf3'⟩ ?_
   rintro k u3 ⟨hk3, hB3, hF3⟩ KL hKL
   have hc0 := mc (f := ⟨u3, 0, []⟩) (fr_row hF3 rfl _ _ hb) rfl
   refine C.begin ⟨u3, 0, []⟩ [] ok_refl .nil ?_
   refine cj_seqF fun K15 hK15 => cj_reg (j_val rfl (fun _ _ h => r_lss rfl rfl h) (j_nil (ej_then (hK15 _ _ _ (CJ.s [(0, _), (1, _), (46, _), (47, _), (48, _), (49, _)] ⟨rfl, rfl, rfl, rfl, rfl, rfl, trivial⟩ (cj_seqF fun K16 hK16 => ?_))))))
   refine cj_dec rfl (fun h49' => ?_) (fun h49' => ?_)
   ·have hk' : k < q.ms.length := by omega
    obtain ⟨bq, rfl, hsq⟩ := hx3 (by omega)
    have hkb : k < bm.length := by rw [e3.len]; exact hk'
    have hcell := osCell (k := k) (v := ptr bm[k]) hF3 rfl hsq (by simp [hkb])
    have hst := msB_step (tag := 3) (Ms := q.ms) (k := k) hk'
    have hle := msB_le 3 q.ms (k + 1)
    have hst' := congrArg List.length hst
    rw [List.length_append] at hst'
    have hel' := encF_le 3 q.ms[k]
    have hen := e3.each k _ _ (List.getElem?_eq_getElem hkb) (List.getElem?_eq_getElem hk')
    refine cj_skip (ej_then (hK16 _ _ _ (CJ.s [(0, _), (1, _), (46, _), (47, _), (48, _)] ⟨rfl, rfl, rfl, rfl, rfl, trivial⟩ (cj_seqF fun K17 hK17 => cj_block (cj_seqF fun K18 hK18 => cj_reg (j_val rfl (fun _ _ h => r_idx runUnderlying117 sizeOf122 rfl rfl (by omega) h) (j_valw rfl (fun a w ha hH hf => r_load isAgg122 rfl (hcell w (hf) 0 _ rfl) ha) (jA rfl rfl (j_nil (ej_then (hK18 _ _ _ (CJ.s [(0, _), (1, _), (9, _), (46, _), (47, _), (48, _)] ⟨rfl, rfl, rfl, rfl, rfl, rfl, trivial⟩ (cj_reg (jM rfl rfl ?_))))))))))))))
    refine jM rfl rfl (j_val rfl (fun _ _ h => r_mki runUnderlying122 rfl rfl h) ?_)
    refine j_callB (D' := D ++ msB 1 q.ts ++ msB 2 q.ss ++ msB 3 (q.ms.take (k + 1))) hF3 hB3 call117 rfl rfl (fun w1 hf hB => by
      rw [hst, ← List.append_assoc]
      exact message_c B w1 bb _ 3 _ _ _ _ _ (by omega) hB (by simp only [List.length_append]; omega) (fun w => me_Map _ _ w) fun w2 hf2 hB2' => hen w2 _ (frQ (frQ (frE hF hF3) hf) hf2) hB2' (by simp only [List.length_append]; omega)) fun v w7 hB7 hF7 => ?_
    refine j_nil (ej_blk (ej_then (hK17 _ _ _ (CJ.s [(0, _), (1, _), (46, _), (47, _), (48, _)] ⟨rfl, rfl, rfl, rfl, rfl, trivial⟩ (cj_reg (j_val rfl (fun _ _ h => r_inc (by omega) rfl rfl h) (jM rfl rfl (j_nil (ej_then ?_)))))))))
    exact fun w' hH hf => hKL (k + 1) _ w' ⟨hk', hB7.fr hf, frQ hF7 hf⟩ (by omega) ⟨rfl, rfl, rfl, rfl, rfl, trivial⟩
   ·have hke3 : k = q.ms.length := by omega
    rw [hke3, List.take_of_length_le (Nat.le_refl _)] at hB3
    clear hKL hke3 hk3
    refine cj_exit (ej_then_exit (ej_then_exit (ej_blk_hit (ej_then (hK13 _ _ _ (CJ.s [(0, _), (1, _)] ⟨rfl, rfl, trivial⟩ (cj_seqF fun K19 hK19 => cj_seqF fun K20 hK20 => cj_reg (jM rfl rfl (jN rfl rfl (j_val rfl (fun _ _ h => r_fl (q := 4) (ft := 118) runUnderlying121 rfl sizeOf118 rfl h) (j_valw rfl (fun a w ha hH hf => r_load isAgg118 rfl (hc0 w (hf) 4 _ rfl) ha) (j_val rfl (fun _ _ h => r_len runUnderlying118 rfl h) (jM rfl rfl (j_nil (ej_then (hK20 _ _ _ (CJ.s [(0, _), (1, _), (60, _), (61, _), (62, _)] ⟨rfl, rfl, rfl, rfl, rfl, trivial⟩ ?_)))))))))))))))))
    refine cj_block ?_
    -- LOOP 3 live [0, 1, 60, 61, 62]
    intro v4 hH4' hf4'
    refine c_loop (σ := Nat) (fun k => [(0, ptr b), (1, ptr bb), (60, .slice p4 q.ls.length c4), (61, .int .i64 (q.ls.length : Nat)), (62, .int .i64 (k : Nat))])
     (fun k w' => k ≤ q.ls.length ∧ Bf B w' bb (D ++ msB 1 q.ts ++ msB 2 q.ss ++ msB 3 q.ms ++ msB 4 (q.ls.take k)) ∧ Fr B wE w0 w') (fun k => q.ls.length - k) 0 ⟨rfl, rfl, rfl, rfl, rfl, trivial⟩ ⟨Nat.zero_le _, by simpa [msB] using hB3.fr hf4', frQ hF3 hf4'⟩ ?_
    rintro k u4 ⟨hk4, hB4, hF4⟩ KL hKL
    have hc0 := mc (f := ⟨u4, 0, []⟩) (fr_row hF4 rfl _ _ hb) rfl
    refine C.begin ⟨u4, 0, []⟩ [] ok_refl .nil ?_
    refine cj_seqF fun K21 hK21 => cj_reg (j_val rfl (fun _ _ h => r_lss rfl rfl h) (j_nil (ej_then (hK21 _ _ _ (CJ.s [(0, _), (1, _), (60, _), (61, _), (62, _), (63, _)] ⟨rfl, rfl, rfl, rfl, rfl, rfl, trivial⟩ (cj_seqF fun K22 hK22 => ?_))))))
    refine cj_dec rfl (fun h63' => ?_) (fun h63' => ?_)
    ·have hk' : k < q.ls.length := by omega
     obtain ⟨bq, rfl, hsq⟩ := hx4 (by omega)
     have hkb : k < bl.length := by rw [e4.len]; exact hk'
     have hcell := osCell (k := k) (v := ptr bl[k]) hF4 rfl hsq (by simp [hkb])
     have hst := msB_step (tag := 4) (Ms := q.ls) (k := k) hk'
     have hle := msB_le 4 q.ls (k + 1)
     have hst' := congrArg List.length hst
     rw [List.length_append] at hst'
     have hel' := encF_le 4 q.ls[k]
     have hen := e4.each k _ _ (List.getElem?_eq_getElem hkb) (List.getElem?_eq_getElem hk')
     refine cj_skip (ej_then (hK22 _ _ _ (CJ.s [(0, _), (1, _), (60, _), (61, _), (62, _)] ⟨rfl, rfl, rfl, rfl, rfl, trivial⟩ (cj_seqF fun K23 hK23 => cj_block (cj_seqF fun K24 hK24 => cj_reg (j_val rfl (fun _ _ h => r_idx runUnderlying118 sizeOf128 rfl rfl (by omega) h) (j_valw rfl (fun a w ha hH hf => r_load isAgg128 rfl (hcell w (hf) 0 _ rfl) ha) (jA rfl rfl (j_nil (ej_then (hK24 _ _ _ (CJ.s [(0, _), (1, _), (11, _), (60, _), (61, _), (62, _)] ⟨rfl, rfl, rfl, rfl, rfl, rfl, trivial⟩ (cj_reg (jM rfl rfl ?_))))))))))))))
     refine jM rfl rfl (j_val rfl (fun _ _ h => r_mki runUnderlying128 rfl rfl h) ?_)
     refine j_callB (D' := D ++ msB 1 q.ts ++ msB 2 q.ss ++ msB 3 q.ms ++ msB 4 (q.ls.take (k + 1))) hF4 hB4 call117 rfl rfl (fun w1 hf hB => by
       rw [hst, ← List.append_assoc]
       exact message_c B w1 bb _ 4 _ _ _ _ _ (by omega) hB (by simp only [List.length_append]; omega) (fun w => me_Loc _ _ w) fun w2 hf2 hB2' => hen w2 _ (frQ (frQ (frE hF hF4) hf) hf2) hB2' (by simp only [List.length_append]; omega)) fun v w7 hB7 hF7 => ?_
     refine j_nil (ej_blk (ej_then (hK23 _ _ _ (CJ.s [(0, _), (1, _), (60, _), (61, _), (62, _)] ⟨rfl, rfl, rfl, rfl, rfl, trivial⟩ (cj_reg (j_val rfl (fun _ _ h => r_inc (by omega) rfl rfl h) (jM rfl rfl (j_nil (ej_then ?_)))))))))
     exact fun w' hH hf => hKL (k + 1) _ w' ⟨hk', hB7.fr hf, frQ hF7 hf⟩ (by omega) ⟨rfl, rfl, rfl, rfl, rfl, trivial⟩
    ·have hke4 : k = q.ls.length := by omega
     rw [hke4, List.take_of_length_le (Nat.le_refl _)] at hB4
     clear hKL hke4 hk4
     refine cj_exit (ej_then_exit (ej_then_exit (ej_blk_hit (ej_then (hK19 _ _ _ (CJ.s [(0, _), (1, _)] ⟨rfl, rfl, trivial⟩ (cj_seqF fun K25 hK25 => cj_seqF fun K26 hK26 => cj_reg (jM rfl rfl (jN rfl rfl (j_val rfl (fun _ _ h => r_fl (q := 5) (ft := 119) runUnderlying121 rfl sizeOf119 rfl h) (j_valw rfl (fun a w ha hH hf => r_load isAgg119 rfl (hc0 w (hf) 5 _ rfl) ha) (j_val rfl (fun _ _ h => r_len runUnderlying119 rfl h) (jM rfl rfl (j_nil (ej_then (hK26 _ _ _ (CJ.s [(0, _), (1, _), (74, _), (75, _), (76, _)] ⟨rfl, rfl, rfl, rfl, rfl, trivial⟩ ?_)))))))))))))))))
     refine cj_block ?_
     -- LOOP 4 live [0, 1, 74, 75, 76]
     intro v5 hH5' hf5'
     refine c_loop (σ := Nat) (fun k => [(0, ptr b), (1, ptr bb), (74, .slice p5 q.fs.length c5), (75, .int .i64 (q.fs.length : Nat)), (76, .int .i64 (k : Nat))])
      (fun k w' => k ≤ q.fs.length ∧ Bf B w' bb (D ++ msB 1 q.ts ++ msB 2 q.ss ++ msB 3 q.ms ++ msB 4 q.ls ++ msB 5 (q.fs.take k)) ∧ Fr B wE w0 w') (fun k => q.fs.length - k) 0 ⟨rfl, rfl, rfl, rfl, rfl, trivial⟩ ⟨Nat.zero_le _, by simpa [msB] using hB4.fr hf5', frQ hF4 hf5'⟩ ?_
     rintro k u5 ⟨hk5, hB5, hF5⟩ KL hKL
     have hc0 := mc (f := ⟨u5, 0, []⟩) (fr_row hF5 rfl _ _ hb) rfl
     refine C.begin ⟨u5, 0, []⟩ [] ok_refl .nil ?_
     refine cj_seqF fun K27 hK27 => cj_reg (j_val rfl (fun _ _ h => r_lss rfl rfl h) (j_nil (ej_then (hK27 _ _ _ (CJ.s [(0, _), (1, _), (74, _), (75, _), (76, _), (77, _)] ⟨rfl, rfl, rfl, rfl, rfl, rfl, trivial⟩ (cj_seqF fun K28 hK28 => ?_))))))
     refine cj_dec rfl (fun h77' => ?_) (fun h77' => ?_)
     ·have hk' : k < q.fs.length := by omega
      obtain ⟨bq, rfl, hsq⟩ := hx5 (by omega)
      have hkb : k < bf.length := by rw [e5.len]; exact hk'
      have hcell := osCell (k := k) (v := ptr bf[k]) hF5 rfl hsq (by simp [hkb])
      have hst := msB_step (tag := 5) (Ms := q.fs) (k := k) hk'
      have hle := msB_le 5 q.fs (k + 1)
      have hst' := congrArg List.length hst
      rw [List.length_append] at hst'
      have hel' := encF_le 5 q.fs[k]
      have hen := e5.each k _ _ (List.getElem?_eq_getElem hkb) (List.getElem?_eq_getElem hk')
      refine cj_skip (ej_then (hK28 _ _ _ (CJ.s [(0, _), (1, _), (74, _), (75, _), (76, _)] ⟨rfl, rfl, rfl, rfl, rfl, trivial⟩ (cj_seqF fun K29 hK29 => cj_block (cj_seqF fun K30 hK30 => cj_reg (j_val rfl (fun _ _ h => r_idx runUnderlying119 sizeOf125 rfl rfl (by omega) h) (j_valw rfl (fun a w ha hH hf => r_load isAgg125 rfl (hcell w (hf) 0 _ rfl) ha) (jA rfl rfl (j_nil (ej_then (hK30 _ _ _ (CJ.s [(0, _), (1, _), (13, _), (74, _), (75, _), (76, _)] ⟨rfl, rfl, rfl, rfl, rfl, rfl, trivial⟩ (cj_reg (jM rfl rfl ?_))))))))))))))
      refine jM rfl rfl (j_val rfl (fun _ _ h => r_mki runUnderlying125 rfl rfl h) ?_)
      refine j_callB (D' := D ++ msB 1 q.ts ++ msB 2 q.ss ++ msB 3 q.ms ++ msB 4 q.ls ++ msB 5 (q.fs.take (k + 1))) hF5 hB5 call117 rfl rfl (fun w1 hf hB => by
        rw [hst, ← List.append_assoc]
        exact message_c B w1 bb _ 5 _ _ _ _ _ (by omega) hB (by simp only [List.length_append]; omega) (fun w => me_Fun _ _ w) fun w2 hf2 hB2' => hen w2 _ (frQ (frQ (frE hF hF5) hf) hf2) hB2' (by simp only [List.length_append]; omega)) fun v w7 hB7 hF7 => ?_
      refine j_nil (ej_blk (ej_then (hK29 _ _ _ (CJ.s [(0, _), (1, _), (74, _), (75, _), (76, _)] ⟨rfl, rfl, rfl, rfl, rfl, trivial⟩ (cj_reg (j_val rfl (fun _ _ h => r_inc (by omega) rfl rfl h) (jM rfl rfl (j_nil (ej_then ?_)))))))))
      exact fun w' hH hf => hKL (k + 1) _ w' ⟨hk', hB7.fr hf, frQ hF7 hf⟩ (by omega) ⟨rfl, rfl, rfl, rfl, rfl, trivial⟩
     ·have hke5 : k = q.fs.length := by omega
      rw [hke5, List.take_of_length_le (Nat.le_refl _)] at hB5
      clear hKL hke5 hk5
      refine cj_exit (ej_then_exit (ej_then_exit (ej_blk_hit (ej_then (hK25 _ _ _ (CJ.s [(0, _), (1, _)] ⟨rfl, rfl, trivial⟩ (cj_seqF fun K31 hK31 => cj_reg (jM rfl rfl (jM rfl rfl (jN rfl rfl (j_val rfl (fun _ _ h => r_fl (q := 16) (ft := 27) runUnderlying121 rfl sizeOf27 rfl h) (j_valw rfl (fun a w ha hH hf => r_load isAgg27 rfl (hc0 w (hf) 16 _ rfl) ha) ?_))))))))))))
      refine j_callB (D' := D ++ msB 1 q.ts ++ msB 2 q.ss ++ msB 3 q.ms ++ msB 4 q.ls ++ msB 5 q.fs ++ strsB 6 q.tab) hF5 hB5 call118 rfl rfl (fun w1 hf hB => strings_c B w1 bb _ 6 _ q.tab (by omega) (h6.mono (fr_row (frQ hF5 hf) rfl)) hB (by simp only [List.length_append]; omega)) fun v u6 hB6 hF6 => ?_
      have hc0 := mc (f := ⟨u6, 0, []⟩) (fr_row hF6 rfl _ _ hb) rfl
      refine j_nil (ej_then (hK31 _ _ _ (CJ.s [(0, _), (1, _)] ⟨rfl, rfl, trivial⟩ (cj_seqF fun K32 hK32 => cj_reg (jM rfl rfl (jM rfl rfl (jN rfl rfl (j_val rfl (fun _ _ h => r_fl (q := 14) (ft := 2) runUnderlying121 rfl sizeOf2 rfl h) (j_valw rfl (fun a w ha hH hf => r_load isAgg2 rfl (hc0 w (hf) 14 _ rfl) ha) ?_)))))))))
      refine j_callB (D' := D ++ msB 1 q.ts ++ msB 2 q.ss ++ msB 3 q.ms ++ msB 4 q.ls ++ msB 5 q.fs ++ strsB 6 q.tab ++ optB 7 (u64 q.dx)) hF6 hB6 call119 rfl rfl (fun w1 hf hB => int64Opt_c B w1 bb _ 7 q.dx (by omega) hq.w1 hB (by simp only [List.length_append]; omega)) fun v u7 hB7 hF7 => ?_
      have hc0 := mc (f := ⟨u7, 0, []⟩) (fr_row hF7 rfl _ _ hb) rfl
      refine j_nil (ej_then (hK32 _ _ _ (CJ.s [(0, _), (1, _)] ⟨rfl, rfl, trivial⟩ (cj_seqF fun K33 hK33 => cj_reg (jM rfl rfl (jM rfl rfl (jN rfl rfl (j_val rfl (fun _ _ h => r_fl (q := 15) (ft := 2) runUnderlying121 rfl sizeOf2 rfl h) (j_valw rfl (fun a w ha hH hf => r_load isAgg2 rfl (hc0 w (hf) 15 _ rfl) ha) ?_)))))))))
      refine j_callB (D' := D ++ msB 1 q.ts ++ msB 2 q.ss ++ msB 3 q.ms ++ msB 4 q.ls ++ msB 5 q.fs ++ strsB 6 q.tab ++ optB 7 (u64 q.dx) ++ optB 8 (u64 q.kx)) hF7 hB7 call119 rfl rfl (fun w1 hf hB => int64Opt_c B w1 bb _ 8 q.kx (by omega) hq.w2 hB (by simp only [List.length_append]; omega)) fun v u8 hB8 hF8 => ?_
      have hc0 := mc (f := ⟨u8, 0, []⟩) (fr_row hF8 rfl _ _ hb) rfl
      refine j_nil (ej_then (hK33 _ _ _ (CJ.s [(0, _), (1, _)] ⟨rfl, rfl, trivial⟩ (cj_seqF fun K34 hK34 => cj_reg (jM rfl rfl (jM rfl rfl (jN rfl rfl (j_val rfl (fun _ _ h => r_fl (q := 9) (ft := 2) runUnderlying121 rfl sizeOf2 rfl h) (j_valw rfl (fun a w ha hH hf => r_load isAgg2 rfl (hc0 w (hf) 9 _ rfl) ha) ?_)))))))))
      refine j_callB (D' := D ++ msB 1 q.ts ++ msB 2 q.ss ++ msB 3 q.ms ++ msB 4 q.ls ++ msB 5 q.fs ++ strsB 6 q.tab ++ optB 7 (u64 q.dx) ++ optB 8 (u64 q.kx) ++ optB 9 (u64 q.ti)) hF8 hB8 call119 rfl rfl (fun w1 hf hB => int64Opt_c B w1 bb _ 9 q.ti (by omega) hq.w3 hB (by simp only [List.length_append]; omega)) fun v u9 hB9 hF9 => ?_
      have hc0 := mc (f := ⟨u9, 0, []⟩) (fr_row hF9 rfl _ _ hb) rfl
      refine j_nil (ej_then (hK34 _ _ _ (CJ.s [(0, _), (1, _)] ⟨rfl, rfl, trivial⟩ (cj_seqF fun K35 hK35 => cj_reg (jM rfl rfl (jM rfl rfl (jN rfl rfl (j_val rfl (fun _ _ h => r_fl (q := 10) (ft := 2) runUnderlying121 rfl sizeOf2 rfl h) (j_valw rfl (fun a w ha hH hf => r_load isAgg2 rfl (hc0 w (hf) 10 _ rfl) ha) ?_)))))))))
      refine j_callB (D' := D ++ msB 1 q.ts ++ msB 2 q.ss ++ msB 3 q.ms ++ msB 4 q.ls ++ msB 5 q.fs ++ strsB 6 q.tab ++ optB 7 (u64 q.dx) ++ optB 8 (u64 q.kx) ++ optB 9 (u64 q.ti) ++ optB 10 (u64 q.du)) hF9 hB9 call119 rfl rfl (fun w1 hf hB => int64Opt_c B w1 bb _ 10 q.du (by omega) hq.w4 hB (by simp only [List.length_append]; omega)) fun v u10 hB10 hF10 => ?_
      have hc0 := mc (f := ⟨u10, 0, []⟩) (fr_row hF10 rfl _ _ hb) rfl
      have hcp := mc (f := ⟨u10, 0, []⟩) (fr_row hF10 rfl _ _ hper) rfl
      refine j_nil (ej_then (hK35 _ _ _ (CJ.s [(0, _), (1, _)] ⟨rfl, rfl, trivial⟩ (cj_seqF fun K36 hK36 => ?_))))
      have hJ134 : ∀ w', Bf B w' bb (D ++ msB 1 q.ts ++ msB 2 q.ss ++ msB 3 q.ms ++ msB 4 q.ls ++ msB 5 q.fs ++ strsB 6 q.tab ++ optB 7 (u64 q.dx) ++ optB 8 (u64 q.kx) ++ optB 9 (u64 q.ti) ++ optB 10 (u64 q.du) ++ (if q.tx ≠ 0 ∨ q.ux ≠ 0 then encF (.bys 11 (vtB q.tx q.ux)) else [])) → Fr B wE w0 w' → N K36 148 [(0, ptr b), (1, ptr bb)] w' := by
       intro u12 hB12 hF12
       have hc0 := mc (f := ⟨u12, 0, []⟩) (fr_row hF12 rfl _ _ hb) rfl
       refine hK36 ⟨u12, 0, []⟩ _ [] ?_ u12 .nil ok_refl
       refine cj_reg (jM rfl rfl (jM rfl rfl (jN rfl rfl (j_val rfl (fun _ _ h => r_fl (q := 12) (ft := 2) runUnderlying121 rfl sizeOf2 rfl h) (j_valw rfl (fun a w ha hH hf => r_load isAgg2 rfl (hc0 w (hf) 12 _ rfl) ha) ?_)))))
       refine j_callB (D' := D ++ msB 1 q.ts ++ msB 2 q.ss ++ msB 3 q.ms ++ msB 4 q.ls ++ msB 5 q.fs ++ strsB 6 q.tab ++ optB 7 (u64 q.dx) ++ optB 8 (u64 q.kx) ++ optB 9 (u64 q.ti) ++ optB 10 (u64 q.du) ++ (if q.tx ≠ 0 ∨ q.ux ≠ 0 then encF (.bys 11 (vtB q.tx q.ux)) else []) ++ optB 12 (u64 q.pe)) hF12 hB12 call119 rfl rfl (fun w1 hf hB => int64Opt_c B w1 bb _ 12 q.pe (by omega) hq.w5 hB (by simp only [List.length_append]; omega)) fun v u13 hB13 hF13 => ?_
       refine j_nil ?_
       refine ?_
       exact ej_end0 results116 fun w' hH hf => ⟨by have := hB13.fr hf; simp only [pfB, List.append_assoc] at this ⊢; exact this, frQ hF13 hf⟩
      clear hK36
      refine cj_seqF fun K37 hK37 => cj_reg (jM rfl rfl (jN rfl rfl (j_val rfl (fun _ _ h => r_fl (q := 11) (ft := 113) runUnderlying121 rfl sizeOf113 rfl h) (j_valw rfl (fun a w ha hH hf => r_load isAgg113 rfl (hc0 w (hf) 11 _ rfl) ha) (jA rfl rfl (j_nil (ej_then (hK37 _ _ _ (CJ.s [(0, _), (1, _), (14, _)] ⟨rfl, rfl, rfl, trivial⟩ (cj_seqF fun K38 hK38 => cj_reg (jM rfl rfl (j_val rfl (fun _ _ h => r_pnneq underlying113 rfl h) ?_))))))))))))
      refine j_eqv (u := .bool true) rfl ?_
      refine jM rfl rfl (j_gt rfl rfl (jM rfl rfl (j_gt rfl rfl (jN rfl rfl (j_gt rfl rfl (j_val rfl (fun _ _ h => r_fl (q := 2) (ft := 2) runUnderlying159 rfl sizeOf2 rfl h) (j_gt rfl rfl (j_valw rfl (fun a w ha hH hf => r_load isAgg2 rfl (hcp w (hf) 2 _ rfl) ha) (j_gt rfl rfl (j_val rfl (fun _ _ h => r_neq rfl rfl h) (j_gt rfl rfl (jM rfl rfl ?_))))))))))))
      refine j_split (t := 127) rfl (fun hg127 => ?_) (fun hg127 => ?_)
      ·refine j_gf rfl rfl rfl rfl (j_gf rfl rfl rfl rfl (j_gf rfl rfl rfl rfl (j_gf rfl rfl rfl rfl (j_gf rfl rfl rfl rfl (j_gt rfl rfl (j_val rfl (fun _ _ h => r_pick_t rfl rfl h) (j_val rfl (fun _ _ h => r_pick_t rfl rfl h) (j_nil (ej_then (hK38 _ _ _ (CJ.s [(0, _), (1, _), (134, _)] ⟨rfl, rfl, rfl, trivial⟩ ?_)))))))))))
       refine cj_if_t rfl ?_
       refine cj_reg (jM rfl rfl (jM rfl rfl (jN rfl rfl (j_val rfl (fun _ _ h => r_fl (q := 11) (ft := 113) runUnderlying121 rfl sizeOf113 rfl h) (j_valw rfl (fun a w ha hH hf => r_load isAgg113 rfl (hc0 w (hf) 11 _ rfl) ha) (j_val rfl (fun _ _ h => r_mki runUnderlying113 rfl rfl h) ?_))))))
       refine j_callB (D' := D ++ msB 1 q.ts ++ msB 2 q.ss ++ msB 3 q.ms ++ msB 4 q.ls ++ msB 5 q.fs ++ strsB 6 q.tab ++ optB 7 (u64 q.dx) ++ optB 8 (u64 q.kx) ++ optB 9 (u64 q.ti) ++ optB 10 (u64 q.du) ++ encF (.bys 11 (vtB q.tx q.ux))) hF10 hB10 call117 rfl rfl (fun w1 hf hB => message_c B w1 bb _ 11 _ _ _ _ _ (by omega) hB (by simp only [List.length_append]; omega) (fun w => me_VT _ _ w) fun w2 hf2 hB2' => vtEnc_c B w2 bb _ q.tx q.ux hq.w6 hq.w7 (hf2.blk (hf.blk (fr_row hF10 rfl _ _ hper) (.inr (by simp))) (.inr (by simp))) hB2' (by simp only [List.length_append]; omega)) fun v u11 hB11 hF11 => ?_
       have hc0 := mc (f := ⟨u11, 0, []⟩) (fr_row hF11 rfl _ _ hb) rfl
       refine j_nil (ej_then ?_)
       intro w' hH hf
       first
        | (have hx : q.tx ≠ 0 ∨ q.ux ≠ 0 := .inl (of_decide_eq_true hg127); rw [if_pos hx] at hJ134; exact N.sub' (hJ134 w' (hB11.fr hf) (frQ hF11 hf)) ⟨rfl, rfl, trivial⟩)
        | (have hx : q.tx ≠ 0 ∨ q.ux ≠ 0 := .inr (of_decide_eq_true h134); rw [if_pos hx] at hJ134; exact N.sub' (hJ134 w' (hB11.fr hf) (frQ hF11 hf)) ⟨rfl, rfl, trivial⟩)
        | (have hx : ¬(q.tx ≠ 0 ∨ q.ux ≠ 0) := not_or.2 ⟨of_decide_eq_false hg127, of_decide_eq_false h134⟩; rw [if_neg hx, List.append_nil] at hJ134; exact N.sub' (hJ134 w' (hB10.fr hf) (frQ hF10 hf)) ⟨rfl, rfl, trivial⟩)
      ·refine j_gt rfl rfl (jM rfl rfl (j_gt rfl rfl (jN rfl rfl (j_gt rfl rfl (j_val rfl (fun _ _ h => r_fl (q := 3) (ft := 2) runUnderlying159 rfl sizeOf2 rfl h) (j_gt rfl rfl (j_valw rfl (fun a w ha hH hf => r_load isAgg2 rfl (hcp w (hf) 3 _ rfl) ha) (j_gt rfl rfl (j_val rfl (fun _ _ h => r_neq rfl rfl h) (j_gt rfl rfl (j_val rfl (fun _ _ h => r_pick_f rfl rfl h) (j_val rfl (fun _ _ h => r_pick_t rfl rfl h) (j_nil ?_)))))))))))))
       refine ej_then (hK38 _ _ _ (CJ.s [(0, _), (1, _), (134, _)] ⟨rfl, rfl, rfl, trivial⟩ ?_))
       refine cj_if rfl (fun h134 => ?_) (fun h134 => ?_)
       ·refine cj_reg (jM rfl rfl (jM rfl rfl (jN rfl rfl (j_val rfl (fun _ _ h => r_fl (q := 11) (ft := 113) runUnderlying121 rfl sizeOf113 rfl h) (j_valw rfl (fun a w ha hH hf => r_load isAgg113 rfl (hc0 w (hf) 11 _ rfl) ha) (j_val rfl (fun _ _ h => r_mki runUnderlying113 rfl rfl h) ?_))))))
        refine j_callB (D' := D ++ msB 1 q.ts ++ msB 2 q.ss ++ msB 3 q.ms ++ msB 4 q.ls ++ msB 5 q.fs ++ strsB 6 q.tab ++ optB 7 (u64 q.dx) ++ optB 8 (u64 q.kx) ++ optB 9 (u64 q.ti) ++ optB 10 (u64 q.du) ++ encF (.bys 11 (vtB q.tx q.ux))) hF10 hB10 call117 rfl rfl (fun w1 hf hB => message_c B w1 bb _ 11 _ _ _ _ _ (by omega) hB (by simp only [List.length_append]; omega) (fun w => me_VT _ _ w) fun w2 hf2 hB2' => vtEnc_c B w2 bb _ q.tx q.ux hq.w6 hq.w7 (hf2.blk (hf.blk (fr_row hF10 rfl _ _ hper) (.inr (by simp))) (.inr (by simp))) hB2' (by simp only [List.length_append]; omega)) fun v u11 hB11 hF11 => ?_
        have hc0 := mc (f := ⟨u11, 0, []⟩) (fr_row hF11 rfl _ _ hb) rfl
        refine j_nil (ej_then ?_)
        intro w' hH hf
        first
         | (have hx : q.tx ≠ 0 ∨ q.ux ≠ 0 := .inl (of_decide_eq_true hg127); rw [if_pos hx] at hJ134; exact N.sub' (hJ134 w' (hB11.fr hf) (frQ hF11 hf)) ⟨rfl, rfl, trivial⟩)
         | (have hx : q.tx ≠ 0 ∨ q.ux ≠ 0 := .inr (of_decide_eq_true h134); rw [if_pos hx] at hJ134; exact N.sub' (hJ134 w' (hB11.fr hf) (frQ hF11 hf)) ⟨rfl, rfl, trivial⟩)
         | (have hx : ¬(q.tx ≠ 0 ∨ q.ux ≠ 0) := not_or.2 ⟨of_decide_eq_false hg127, of_decide_eq_false h134⟩; rw [if_neg hx, List.append_nil] at hJ134; exact N.sub' (hJ134 w' (hB10.fr hf) (frQ hF10 hf)) ⟨rfl, rfl, trivial⟩)
       ·refine cj_skip (ej_then ?_)
        intro w' hH hf
        first
         | (have hx : q.tx ≠ 0 ∨ q.ux ≠ 0 := .inl (of_decide_eq_true hg127); rw [if_pos hx] at hJ134; exact N.sub' (hJ134 w' (hB11.fr hf) (frQ hF11 hf)) ⟨rfl, rfl, trivial⟩)
         | (have hx : q.tx ≠ 0 ∨ q.ux ≠ 0 := .inr (of_decide_eq_true h134); rw [if_pos hx] at hJ134; exact N.sub' (hJ134 w' (hB11.fr hf) (frQ hF11 hf)) ⟨rfl, rfl, trivial⟩)
         | (have hx : ¬(q.tx ≠ 0 ∨ q.ux ≠ 0) := not_or.2 ⟨of_decide_eq_false hg127, of_decide_eq_false h134⟩; rw [if_neg hx, List.append_nil] at hJ134; exact N.sub' (hJ134 w' (hB10.fr hf) (frQ hF10 hf)) ⟨rfl, rfl, trivial⟩)
end Go.Proofs.YtifnhinopjgfaaaGreat
