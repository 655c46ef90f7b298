/-
  What the specification's decoder is given, message by message. Conditions: as each lemma states them.
-/
import Derived.Test.YtifnhinopjgfaaaGreatLc
import Derived.Test.YtifnhinopjgfaaaGreatRl
import Derived.Laws.BytesString
namespace Go.Fw
open Go
theorem push_all : ∀ (l : List UInt8) (acc : ByteArray), (l.map fun c : UInt8 => ((c.toNat : Nat) : Int)).foldl (fun r n => r.push (UInt8.ofNat n.toNat)) acc = ⟨acc.data ++ l.toArray⟩
 | [], acc => by simp
 | c :: r, acc => by
  rw [List.map_cons, List.foldl_cons, push_all r]
  have : (acc.push (UInt8.ofNat ((c.toNat : Nat) : Int).toNat)).data = acc.data.push c := by
   simp [ByteArray.push]
  rw [this]; simp
section
variable {P : Program} {n : Nat} {e : Env} {d ty : Nat} {pos : String} {af : Array Edge}
/-- a text made of bytes in memory -/
theorem r_b2s {t1 t2 el : Nat} {x : Operand} {b o c l : Nat} {s : ByteArray} {a : Act} {w : World} (h1 : P.underlying t1 = some (.slice el)) (h2 : P.underlying el = some (.int .u8)) (h3 : P.underlying t2 = some .string) (hx : ev e x = some (.slice (some ⟨b, o, none⟩) l c)) (hl : l = (sB s).length)
  (hc : ∀ (j : Nat) k, (sB s)[j]? = some k → w.cell? ⟨b, o + j, none⟩ = some (bv k)) (ha : Sat n e a) :
  (execOp a.eval ⟨some d, .convert t1 t2 x, ty, pos, af, none⟩).run P w = .ok (.value (.string s)) w := by
 have hlc := run_loadCells (P := P) (b := b) w ((sB s).map bv) o fun j u hu => by
  rw [List.getElem?_map] at hu
  obtain ⟨k, h4, h5⟩ := Option.map_eq_some_iff.1 hu
  rw [← h5]; exact hc j k h4
 have e1 : (sB s).map bv = (s.data.toList.map fun c : UInt8 => ((c.toNat : Nat) : Int)).map (Value.int .u8) := by simp [sB]
 rw [List.length_map] at hlc
 rw [e1] at hlc
 have h5 := run_bytesToString (P := P) w ⟨b, o, none⟩ (sB s).length c _ hlc
 rw [push_all] at h5
 have e2 : (⟨ByteArray.empty.data ++ s.data.toList.toArray⟩ : ByteArray) = s := by
  cases s; simp [ByteArray.empty, ByteArray.emptyWithCapacity]; rfl
 rw [e2] at h5
 subst hl
 simp only [execOp, ha.ev hx]
 simp [run_convert_bytes_string w t1 t2 el _ _ _ h1 h2 h3, h5]
end
end Go.Fw
namespace Go.Proofs.YtifnhinopjgfaaaGreat
open Go Go.Fw Go.Proofs Go.Proofs.Tryz
abbrev tIP : Nat := 31
abbrev tTy : Nat := 29
abbrev tMp : Nat := 70
abbrev tFn : Nat := 72
abbrev tLc : Nat := 76
abbrev tLn : Nat := 78
abbrev tInt : Nat := 3
/-- a place among numbers, -1 for 0 -/
def Plc (ids : List Nat) (id : Nat) (r : Int) : Prop := (id = 0 ∧ r = -1) ∨ (id ≠ 0 ∧ ∃ k : Nat, r = k ∧ ids[k]? = some id ∧ ∀ j < k, ids[j]? ≠ some id)
abbrev mids (x : PProf) : List Nat := x.mappings.map fun m => m.id.toNat
abbrev fids (x : PProf) : List Nat := x.funcs.map fun m => m.id.toNat
abbrev lids (x : PProf) : List Nat := x.locs.map fun m => m.id.toNat
structure TyM (T : List ByteArray) (t : PType) (gs : List Fld) : Prop where
 h1 : T[oneN 1 gs]? = some t.ty
 h2 : T[oneN 2 gs]? = some t.unit
 len : gs.length ≤ 10000000000
structure MpM (T : List ByteArray) (m : PMapping) (gs : List Fld) : Prop where
 id : (oneN 1 gs : Int) = m.id
 st : (oneN 2 gs : Int) = m.start
 li : (oneN 3 gs : Int) = m.limit
 off : (oneN 4 gs : Int) = m.offset
 file : T[oneN 5 gs]? = some m.file
 build : T[oneN 6 gs]? = some m.build
 fu : decide ((oneN 7 gs : Int) ≠ 0) = m.fu
 fi : decide ((oneN 8 gs : Int) ≠ 0) = m.fi
 ln : decide ((oneN 9 gs : Int) ≠ 0) = m.li
 inl : decide ((oneN 10 gs : Int) ≠ 0) = m.inl
 len : gs.length ≤ 10000000000
structure FnM (T : List ByteArray) (f : PFunc) (gs : List Fld) : Prop where
 id : (oneN 1 gs : Int) = f.id
 name : T[oneN 2 gs]? = some f.name
 sys : T[oneN 3 gs]? = some f.system
 file : T[oneN 4 gs]? = some f.file
 st : IntKind.i64.wrap (oneN 5 gs : Nat) = f.start
 len : gs.length ≤ 10000000000
structure LnM (x : PProf) (n : PLine) (gs : List Fld) : Prop where
 fn : Plc (fids x) (oneN 1 gs) n.fn
 line : IntKind.i64.wrap (oneN 2 gs : Nat) = n.line
 len : gs.length ≤ 10000000000
structure LcM (x : PProf) (l : PLoc) (gs : List Fld) : Prop where
 id : (oneN 1 gs : Int) = l.id
 mp : Plc (mids x) (oneN 2 gs) l.mapping
 ad : (oneN 3 gs : Int) = l.addr
 lns : ∃ gls, SubOK 4 gs gls ∧ All2 l.lines gls (LnM x)
 ll : l.lines.length ≤ 1000000
 len : gs.length ≤ 1000000000
structure SmM (x : PProf) (T : List ByteArray) (s : PSample) (gs : List Fld) : Prop where
 st : ∃ ns, Mny 1 gs ns ∧ All2 s.stack ns.flatten fun z id => Plc (lids x) id z ∧ 0 ≤ z
 vs : ∃ ns, Mny 2 gs ns ∧ All2 s.values ns.flatten fun z n => IntKind.i64.wrap (n : Nat) = z
 lb : ∃ gls, SubOK 3 gs gls ∧ LbsOK T gls (labE s)
 gT : foldT (labE s) = s.texts.map fun t => (t.key, t.list)
 gN : foldN (labE s) = s.nums.map fun t => (t.key, t.list)
 sl : s.stack.length ≤ 1000000
 vl : s.values.length ≤ 1000000
 len : gs.length ≤ 1000000000
/-- the whole that is read -/
structure DIn (x : PProf) (T : List ByteArray) (fs : List Fld) : Prop where
 ok : ∀ f ∈ fs, FldOK f
 len : fs.length ≤ 1000000000
 tab : (fs.filter fun f => fkey f = 6).map fbytes = T.map sB
 z0 : T[0]? = some eB
 tl : T.length ≤ 1000000000
 drop : T[oneN 7 fs]? = some x.drop
 keep : T[oneN 8 fs]? = some x.keep
 time : IntKind.i64.wrap (oneN 9 fs : Nat) = x.time
 dur : IntKind.i64.wrap (oneN 10 fs : Nat) = x.dur
 period : IntKind.i64.wrap (oneN 12 fs : Nat) = x.period
 dfl : T[oneN 14 fs]? = some x.deflt
 ty : ∃ g, SubOK 1 fs g ∧ All2 x.types g (TyM T)
 pe : ∃ g, SubOK 11 fs g ∧ g.length ≤ 1 ∧ (g = [] → x.per = ⟨eB, eB⟩) ∧ ∀ gs ∈ g, TyM T x.per gs
 cm : ∃ ns, Mny 13 fs ns ∧ ns.flatten = []
 cm0 : x.comments = []
 mp : ∃ g, SubOK 3 fs g ∧ All2 x.mappings g (MpM T)
 fn : ∃ g, SubOK 5 fs g ∧ All2 x.funcs g (FnM T)
 lc : ∃ g, SubOK 4 fs g ∧ All2 x.locs g (LcM x)
 sm : ∃ g, SubOK 2 fs g ∧ All2 x.samples g (SmM x T)
 small : x.types.length ≤ 1000000 ∧ x.mappings.length ≤ 1000000 ∧ x.funcs.length ≤ 1000000 ∧ x.locs.length ≤ 1000000 ∧ x.samples.length ≤ 1000000
/-! ### what is made of it, in memory -/
def cTyI (t : PType) : List Value := [.string t.ty, .string t.unit]
def cMpI (m : PMapping) : List Value := [.int .u64 m.id, .int .u64 m.start, .int .u64 m.limit, .int .u64 m.offset, .string m.file, .string m.build, .bool m.fu, .bool m.fi, .bool m.li, .bool m.inl]
def cFnI (f : PFunc) : List Value := [.int .u64 f.id, .string f.name, .string f.system, .string f.file, .int .i64 f.start]
def cLnI (n : PLine) : List Value := [.int .i64 n.fn, .int .i64 n.line]
def cLcI (q : PLoc × Value) : List Value := [.int .u64 q.1.id, .int .i64 q.1.mapping, .int .u64 q.1.addr, q.2]
structure SV where (st vs tx nu : Value)
def cSmI (q : PSample × SV) : List Value := [q.2.st, q.2.vs, q.2.tx, q.2.nu]
structure SmV (w : World) (q : PSample × SV) : Prop where
 st : OS tInt 1 w q.2.st (q.1.stack.map (.int .i64))
 vs : OS tI64 1 w q.2.vs (q.1.values.map (.int .i64))
 tx : SdR tTx tStr .string w q.2.tx (q.1.texts.map fun t => (t.key, t.list))
 nu : SdR tNu tI64 encZ w q.2.nu (q.1.nums.map fun t => (t.key, t.list))
def LcsV (w : World) (qs : List (PLoc × Value)) : Prop := ∀ q ∈ qs, OS tLn 2 w q.2 (q.1.lines.flatMap cLnI)
def SmsV (w : World) (qs : List (PSample × SV)) : Prop := ∀ q ∈ qs, SmV w q
theorem SmV.mono {w w' : World} {q : PSample × SV} (h : SmV w q) (k1 : ∀ b cs, Blk w b tInt cs → Blk w' b tInt cs) (k2 : ∀ b cs, Blk w b tI64 cs → Blk w' b tI64 cs) (k3 : ∀ b cs, Blk w b tTx cs → Blk w' b tTx cs) (k4 : ∀ b cs, Blk w b tStr cs → Blk w' b tStr cs) (k5 : ∀ b cs, Blk w b tNu cs → Blk w' b tNu cs) : SmV w' q :=
 ⟨h.st.mono k1, h.vs.mono k2, h.tx.mono k3 k4, h.nu.mono k5 k2⟩
theorem All2.at_ {α β : Type} {xs : List α} {ys : List β} {R : α → β → Prop} (h : All2 xs ys R) {i : Nat} (hi : i < xs.length) : ∃ (h2 : i < ys.length), R xs[i] ys[i] := by
 have hl := h.1
 have h2 : i < ys.length := by omega
 exact ⟨h2, h.2 i _ _ (List.getElem?_eq_getElem hi) (List.getElem?_eq_getElem h2)⟩
end Go.Proofs.YtifnhinopjgfaaaGreat
