/-
  NARROWER THAN 'FOR EVERY INPUT', by the rows' own cells (each row's printed sentence says how): FnRead: ifaces, laid · FnCopy: ifaces, laid · FnRoad: ifaces, laid · FnExactJoin: ifaces, laid.
  DERIVED. THE GIVEN ROWS OF THIS SEAT. 4 by the template 'for every input the law returns true; each argument reads behind the call as it read before'; 0 by the template 'total and deterministic' (their statements: YtifdadlhmlhfiaaGreatDoorTotals.lean).
  GIVEN WITH THE SEED: the statements are not yours to turn. If you find one false, say at which input.
  Laid BY PROGRAM, IN A SANDBOX (cutbox-rows.mjs): the forced cells as the released guide's own fill.sh prints them over the translation 09debe9f5d817b11… (all of the seat's roots in one cut). By AI agents, Wed Nov 11 2026. No macro, syntax, notation, axiom, sorry.
-/
import Derived.Test.YtifdadlhmlhfiaaGreatDoorChecked
import GoSem.Claim
import GoSem.ClaimJoined
import GoSem.ClaimMapViews
import Derived.JoinedTies
import Derived.KernelRfl
namespace Go.Proofs.YtifdadlhmlhfiaaGreatDoor
/- THE CELL 'sum', in the pinned program and in every row, IS THE sha256 OF THE DUMP (.gsa) THAT YtifdadlhmlhfiaaGreatDoorProg.lean LOADS. Nothing in Lean hashes anything: it is a label: what it is worth is what the hold of that sum in a sandbox is worth. -/
noncomputable def Tryz.pinned : Pinned := { name := "ytifdadlhmlhfiaagreatdoor", sum := "09debe9f5d817b1114ec9bcb8bfaace56bf022b6f5d8cb608858a90f27bf3903", checked := Tryz.checked }
namespace Rows
def none {H : Type} : Left H := { results := [], args := [] }

/- WHAT THE LISTED PACKAGE-LEVEL VARIABLES READ AS WHEN THE CALL BEGINS. Each datum BY PROGRAM (the guide's laid-datum.mjs) off the statement by which the dump's own 'gosem.cut.vars' lays the variable. In a bare row this is a premise. The card (YtifdadlhmlhfiaaGreatDoorCards.lean) ties it to the program's text. -/
def laid_math_bits_deBruijn32tab {H : Type} : DataW H := .agg [.lit (.int .u8 0), .lit (.int .u8 1), .lit (.int .u8 28), .lit (.int .u8 2), .lit (.int .u8 29), .lit (.int .u8 14), .lit (.int .u8 24), .lit (.int .u8 3), .lit (.int .u8 30), .lit (.int .u8 22), .lit (.int .u8 20), .lit (.int .u8 15), .lit (.int .u8 25), .lit (.int .u8 17), .lit (.int .u8 4), .lit (.int .u8 8), .lit (.int .u8 31), .lit (.int .u8 27), .lit (.int .u8 13), .lit (.int .u8 23), .lit (.int .u8 21), .lit (.int .u8 19), .lit (.int .u8 16), .lit (.int .u8 7), .lit (.int .u8 26), .lit (.int .u8 12), .lit (.int .u8 18), .lit (.int .u8 6), .lit (.int .u8 11), .lit (.int .u8 5), .lit (.int .u8 10), .lit (.int .u8 9)]
def laid_math_bits_deBruijn64tab {H : Type} : DataW H := .agg [.lit (.int .u8 0), .lit (.int .u8 1), .lit (.int .u8 56), .lit (.int .u8 2), .lit (.int .u8 57), .lit (.int .u8 49), .lit (.int .u8 28), .lit (.int .u8 3), .lit (.int .u8 61), .lit (.int .u8 58), .lit (.int .u8 42), .lit (.int .u8 50), .lit (.int .u8 38), .lit (.int .u8 29), .lit (.int .u8 17), .lit (.int .u8 4), .lit (.int .u8 62), .lit (.int .u8 47), .lit (.int .u8 59), .lit (.int .u8 36), .lit (.int .u8 45), .lit (.int .u8 43), .lit (.int .u8 51), .lit (.int .u8 22), .lit (.int .u8 53), .lit (.int .u8 39), .lit (.int .u8 33), .lit (.int .u8 30), .lit (.int .u8 24), .lit (.int .u8 18), .lit (.int .u8 12), .lit (.int .u8 5), .lit (.int .u8 63), .lit (.int .u8 55), .lit (.int .u8 48), .lit (.int .u8 27), .lit (.int .u8 60), .lit (.int .u8 41), .lit (.int .u8 37), .lit (.int .u8 16), .lit (.int .u8 46), .lit (.int .u8 35), .lit (.int .u8 44), .lit (.int .u8 21), .lit (.int .u8 52), .lit (.int .u8 32), .lit (.int .u8 23), .lit (.int .u8 11), .lit (.int .u8 54), .lit (.int .u8 26), .lit (.int .u8 40), .lit (.int .u8 15), .lit (.int .u8 34), .lit (.int .u8 20), .lit (.int .u8 31), .lit (.int .u8 10), .lit (.int .u8 25), .lit (.int .u8 14), .lit (.int .u8 19), .lit (.int .u8 9), .lit (.int .u8 13), .lit (.int .u8 8), .lit (.int .u8 7), .lit (.int .u8 6)]
def laid_internal_strconv_uint64pow10 {H : Type} : DataW H := .agg [.lit (.int .u64 1), .lit (.int .u64 10), .lit (.int .u64 100), .lit (.int .u64 1000), .lit (.int .u64 10000), .lit (.int .u64 100000), .lit (.int .u64 1000000), .lit (.int .u64 10000000), .lit (.int .u64 100000000), .lit (.int .u64 1000000000), .lit (.int .u64 10000000000), .lit (.int .u64 100000000000), .lit (.int .u64 1000000000000), .lit (.int .u64 10000000000000), .lit (.int .u64 100000000000000), .lit (.int .u64 1000000000000000), .lit (.int .u64 10000000000000000), .lit (.int .u64 100000000000000000), .lit (.int .u64 1000000000000000000), .lit (.int .u64 10000000000000000000)]
def laid_loop_example_pub_profileroads_pub_goprofile_errMalformed {H : Type} : DataW H := .iface "*errors.errorString" (.ptr (.agg [.lit (.string [109, 97, 108, 102, 111, 114, 109, 101, 100, 32, 112, 114, 111, 102, 105, 108, 101, 32, 102, 111, 114, 109, 97, 116])]))
def laid_loop_example_pub_profileroads_pub_goprofile_ErrNoData {H : Type} : DataW H := .iface "*errors.errorString" (.ptr (.agg [.lit (.string [101, 109, 112, 116, 121, 32, 105, 110, 112, 117, 116, 32, 102, 105, 108, 101])]))

/-- 'laws.FnRead': WHATEVER THE INPUT: true; the input reads as it did. -/
def fnReadSpec : ChangeSpec := { name := "fnRead", vars := ["loop.example/pub-profileroads/pub/goprofile.ErrNoData", "loop.example/pub-profileroads/pub/goprofile.errMalformed"], fn := fun _ => fun
  | [d1, d2, g1, g2] => { results := [.lit (.bool true)], args := [d1, d2], vars := [g1, g2] }
  | _ => none }
def fnReadRow : OpenClaim := { program := "ytifdadlhmlhfiaagreatdoor", sum := "09debe9f5d817b1114ec9bcb8bfaace56bf022b6f5d8cb608858a90f27bf3903", func := "loop.example/pub-profileroads/laws.FnRead", spec := "fnRead", unfollowed := true, recurses := true, named := ["loop.example/pub-profileroads/pub/goprofile.ErrNoData", "internal/strconv.uint64pow10", "math/bits.deBruijn32tab", "math/bits.deBruijn64tab", "loop.example/pub-profileroads/pub/goprofile.errMalformed"], ifaces := true, apart := false, laid := [("math/bits.deBruijn32tab", laid_math_bits_deBruijn32tab), ("math/bits.deBruijn64tab", laid_math_bits_deBruijn64tab), ("internal/strconv.uint64pow10", laid_internal_strconv_uint64pow10), ("loop.example/pub-profileroads/pub/goprofile.errMalformed", laid_loop_example_pub_profileroads_pub_goprofile_errMalformed), ("loop.example/pub-profileroads/pub/goprofile.ErrNoData", laid_loop_example_pub_profileroads_pub_goprofile_ErrNoData)] }
def FnReadSaid : Prop := fnReadRow.holds Tryz.pinned (OpenSpec.ofChange fnReadSpec)

/-- ITS FALSE NEIGHBOUR: 'it returns false'. Refute it at one input. -/
def fnReadWrong : ChangeSpec := { name := "fnRead", vars := ["loop.example/pub-profileroads/pub/goprofile.ErrNoData", "loop.example/pub-profileroads/pub/goprofile.errMalformed"], fn := fun _ => fun
  | [d1, d2, g1, g2] => { results := [.lit (.bool false)], args := [d1, d2], vars := [g1, g2] }
  | _ => none }
def FnReadWrongFalsely : Prop := fnReadRow.holds Tryz.pinned (OpenSpec.ofChange fnReadWrong)

/-- 'laws.FnCopy': WHATEVER THE INPUT: true; the input reads as it did. -/
def fnCopySpec : ChangeSpec := { name := "fnCopy", vars := ["loop.example/pub-profileroads/pub/goprofile.errMalformed"], fn := fun _ => fun
  | [d, g1] => { results := [.lit (.bool true)], args := [d], vars := [g1] }
  | _ => none }
def fnCopyRow : OpenClaim := { program := "ytifdadlhmlhfiaagreatdoor", sum := "09debe9f5d817b1114ec9bcb8bfaace56bf022b6f5d8cb608858a90f27bf3903", func := "loop.example/pub-profileroads/laws.FnCopy", spec := "fnCopy", unfollowed := true, recurses := true, named := ["internal/strconv.uint64pow10", "math/bits.deBruijn32tab", "math/bits.deBruijn64tab", "loop.example/pub-profileroads/pub/goprofile.errMalformed"], ifaces := true, apart := false, laid := [("math/bits.deBruijn32tab", laid_math_bits_deBruijn32tab), ("math/bits.deBruijn64tab", laid_math_bits_deBruijn64tab), ("internal/strconv.uint64pow10", laid_internal_strconv_uint64pow10), ("loop.example/pub-profileroads/pub/goprofile.errMalformed", laid_loop_example_pub_profileroads_pub_goprofile_errMalformed)] }
def FnCopySaid : Prop := fnCopyRow.holds Tryz.pinned (OpenSpec.ofChange fnCopySpec)

/-- ITS FALSE NEIGHBOUR: 'it returns false'. Refute it at one input. -/
def fnCopyWrong : ChangeSpec := { name := "fnCopy", vars := ["loop.example/pub-profileroads/pub/goprofile.errMalformed"], fn := fun _ => fun
  | [d, g1] => { results := [.lit (.bool false)], args := [d], vars := [g1] }
  | _ => none }
def FnCopyWrongFalsely : Prop := fnCopyRow.holds Tryz.pinned (OpenSpec.ofChange fnCopyWrong)

/-- 'laws.FnRoad': WHATEVER THE INPUT: true; the input reads as it did. -/
def fnRoadSpec : ChangeSpec := { name := "fnRoad", vars := ["loop.example/pub-profileroads/pub/goprofile.ErrNoData", "loop.example/pub-profileroads/pub/goprofile.errMalformed"], fn := fun _ => fun
  | [d, g1, g2] => { results := [.lit (.bool true)], args := [d], vars := [g1, g2] }
  | _ => none }
def fnRoadRow : OpenClaim := { program := "ytifdadlhmlhfiaagreatdoor", sum := "09debe9f5d817b1114ec9bcb8bfaace56bf022b6f5d8cb608858a90f27bf3903", func := "loop.example/pub-profileroads/laws.FnRoad", spec := "fnRoad", unfollowed := true, recurses := true, named := ["loop.example/pub-profileroads/pub/goprofile.ErrNoData", "internal/strconv.uint64pow10", "math/bits.deBruijn32tab", "math/bits.deBruijn64tab", "loop.example/pub-profileroads/pub/goprofile.errMalformed"], ifaces := true, apart := false, laid := [("math/bits.deBruijn32tab", laid_math_bits_deBruijn32tab), ("math/bits.deBruijn64tab", laid_math_bits_deBruijn64tab), ("internal/strconv.uint64pow10", laid_internal_strconv_uint64pow10), ("loop.example/pub-profileroads/pub/goprofile.errMalformed", laid_loop_example_pub_profileroads_pub_goprofile_errMalformed), ("loop.example/pub-profileroads/pub/goprofile.ErrNoData", laid_loop_example_pub_profileroads_pub_goprofile_ErrNoData)] }
def FnRoadSaid : Prop := fnRoadRow.holds Tryz.pinned (OpenSpec.ofChange fnRoadSpec)

/-- ITS FALSE NEIGHBOUR: 'it returns false'. Refute it at one input. -/
def fnRoadWrong : ChangeSpec := { name := "fnRoad", vars := ["loop.example/pub-profileroads/pub/goprofile.ErrNoData", "loop.example/pub-profileroads/pub/goprofile.errMalformed"], fn := fun _ => fun
  | [d, g1, g2] => { results := [.lit (.bool false)], args := [d], vars := [g1, g2] }
  | _ => none }
def FnRoadWrongFalsely : Prop := fnRoadRow.holds Tryz.pinned (OpenSpec.ofChange fnRoadWrong)

/-- 'laws.FnExactJoin': WHATEVER THE INPUT: true; the input reads as it did. -/
def fnExactJoinSpec : ChangeSpec := { name := "fnExactJoin", vars := ["loop.example/pub-profileroads/pub/goprofile.errMalformed"], fn := fun _ => fun
  | [d1, d2, g1] => { results := [.lit (.bool true)], args := [d1, d2], vars := [g1] }
  | _ => none }
def fnExactJoinRow : OpenClaim := { program := "ytifdadlhmlhfiaagreatdoor", sum := "09debe9f5d817b1114ec9bcb8bfaace56bf022b6f5d8cb608858a90f27bf3903", func := "loop.example/pub-profileroads/laws.FnExactJoin", spec := "fnExactJoin", unfollowed := true, recurses := true, named := ["internal/strconv.uint64pow10", "math/bits.deBruijn32tab", "math/bits.deBruijn64tab", "loop.example/pub-profileroads/pub/goprofile.errMalformed"], ifaces := true, apart := false, laid := [("math/bits.deBruijn32tab", laid_math_bits_deBruijn32tab), ("math/bits.deBruijn64tab", laid_math_bits_deBruijn64tab), ("internal/strconv.uint64pow10", laid_internal_strconv_uint64pow10), ("loop.example/pub-profileroads/pub/goprofile.errMalformed", laid_loop_example_pub_profileroads_pub_goprofile_errMalformed)] }
def FnExactJoinSaid : Prop := fnExactJoinRow.holds Tryz.pinned (OpenSpec.ofChange fnExactJoinSpec)

/-- ITS FALSE NEIGHBOUR: 'it returns false'. Refute it at one input. -/
def fnExactJoinWrong : ChangeSpec := { name := "fnExactJoin", vars := ["loop.example/pub-profileroads/pub/goprofile.errMalformed"], fn := fun _ => fun
  | [d1, d2, g1] => { results := [.lit (.bool false)], args := [d1, d2], vars := [g1] }
  | _ => none }
def FnExactJoinWrongFalsely : Prop := fnExactJoinRow.holds Tryz.pinned (OpenSpec.ofChange fnExactJoinWrong)

/- THE SECOND FORM. 'bulk': how many values and letters a reading holds, each counted each time it is reached (what is shared counts as often as it is met; a slice's spare places count too). A statement '..UptoSaid' is the law's where the arguments, and the package variables that the reading takes, are together of bulk at most 1048576: NARROWER than '..Said'. Prove '..Said' where nothing that the law and all that it calls make is longer than what came in: it says more and counts as full. Else prove '..UptoSaid'. A law counts once. -/
mutual
def uptoBulk {H : Type} : DataW H → Nat
  | .lit (.string bytes) => bytes.length + 1
  | .lit _ => 1
  | .nil => 1
  | .ptr d => uptoBulk d + 1
  | .slice elems spare => uptoBulkAll elems + uptoBulkAll spare + 1
  | .agg parts => uptoBulkAll parts + 1
  | .iface _ d => uptoBulk d + 1
  | .map entries => uptoBulkEntries entries + 1
  | .held _ => 1
def uptoBulkAll {H : Type} : List (DataW H) → Nat
  | [] => 0
  | d :: r => uptoBulk d + uptoBulkAll r
def uptoBulkEntries {H : Type} : List (Lit × DataW H) → Nat
  | [] => 0
  | x :: r => uptoBulkEntry x + uptoBulkEntries r
def uptoBulkEntry {H : Type} : Lit × DataW H → Nat
  | (.string bytes, d) => bytes.length + uptoBulk d + 1
  | (_, d) => uptoBulk d + 1
 end
def uptoSmall : (H : Type) → List (DataW H) → Bool := fun _ ds => decide (uptoBulkAll ds ≤ 1048576)
def OpenSpec.upto (s : _root_.Go.ChangeSpec) : _root_.Go.OpenSpec := { _root_.Go.OpenSpec.ofChange s with cond := some uptoSmall }

/-- 'laws.FnRead', WHERE WHAT IT READS IS OF BULK AT MOST 1048576: true; the input reads as it did. -/
def fnReadUptoRow : OpenClaim := { program := "ytifdadlhmlhfiaagreatdoor", sum := "09debe9f5d817b1114ec9bcb8bfaace56bf022b6f5d8cb608858a90f27bf3903", func := "loop.example/pub-profileroads/laws.FnRead", spec := "fnRead", unfollowed := true, recurses := true, named := ["loop.example/pub-profileroads/pub/goprofile.ErrNoData", "internal/strconv.uint64pow10", "math/bits.deBruijn32tab", "math/bits.deBruijn64tab", "loop.example/pub-profileroads/pub/goprofile.errMalformed"], ifaces := true, apart := false, laid := [("math/bits.deBruijn32tab", laid_math_bits_deBruijn32tab), ("math/bits.deBruijn64tab", laid_math_bits_deBruijn64tab), ("internal/strconv.uint64pow10", laid_internal_strconv_uint64pow10), ("loop.example/pub-profileroads/pub/goprofile.errMalformed", laid_loop_example_pub_profileroads_pub_goprofile_errMalformed), ("loop.example/pub-profileroads/pub/goprofile.ErrNoData", laid_loop_example_pub_profileroads_pub_goprofile_ErrNoData)], narrowed := true }
def FnReadUptoSaid : Prop := fnReadUptoRow.holds Tryz.pinned (OpenSpec.upto fnReadSpec)

/-- 'laws.FnCopy', WHERE WHAT IT READS IS OF BULK AT MOST 1048576: true; the input reads as it did. -/
def fnCopyUptoRow : OpenClaim := { program := "ytifdadlhmlhfiaagreatdoor", sum := "09debe9f5d817b1114ec9bcb8bfaace56bf022b6f5d8cb608858a90f27bf3903", func := "loop.example/pub-profileroads/laws.FnCopy", spec := "fnCopy", unfollowed := true, recurses := true, named := ["internal/strconv.uint64pow10", "math/bits.deBruijn32tab", "math/bits.deBruijn64tab", "loop.example/pub-profileroads/pub/goprofile.errMalformed"], ifaces := true, apart := false, laid := [("math/bits.deBruijn32tab", laid_math_bits_deBruijn32tab), ("math/bits.deBruijn64tab", laid_math_bits_deBruijn64tab), ("internal/strconv.uint64pow10", laid_internal_strconv_uint64pow10), ("loop.example/pub-profileroads/pub/goprofile.errMalformed", laid_loop_example_pub_profileroads_pub_goprofile_errMalformed)], narrowed := true }
def FnCopyUptoSaid : Prop := fnCopyUptoRow.holds Tryz.pinned (OpenSpec.upto fnCopySpec)

/-- 'laws.FnRoad', WHERE WHAT IT READS IS OF BULK AT MOST 1048576: true; the input reads as it did. -/
def fnRoadUptoRow : OpenClaim := { program := "ytifdadlhmlhfiaagreatdoor", sum := "09debe9f5d817b1114ec9bcb8bfaace56bf022b6f5d8cb608858a90f27bf3903", func := "loop.example/pub-profileroads/laws.FnRoad", spec := "fnRoad", unfollowed := true, recurses := true, named := ["loop.example/pub-profileroads/pub/goprofile.ErrNoData", "internal/strconv.uint64pow10", "math/bits.deBruijn32tab", "math/bits.deBruijn64tab", "loop.example/pub-profileroads/pub/goprofile.errMalformed"], ifaces := true, apart := false, laid := [("math/bits.deBruijn32tab", laid_math_bits_deBruijn32tab), ("math/bits.deBruijn64tab", laid_math_bits_deBruijn64tab), ("internal/strconv.uint64pow10", laid_internal_strconv_uint64pow10), ("loop.example/pub-profileroads/pub/goprofile.errMalformed", laid_loop_example_pub_profileroads_pub_goprofile_errMalformed), ("loop.example/pub-profileroads/pub/goprofile.ErrNoData", laid_loop_example_pub_profileroads_pub_goprofile_ErrNoData)], narrowed := true }
def FnRoadUptoSaid : Prop := fnRoadUptoRow.holds Tryz.pinned (OpenSpec.upto fnRoadSpec)

/-- 'laws.FnExactJoin', WHERE WHAT IT READS IS OF BULK AT MOST 1048576: true; the input reads as it did. -/
def fnExactJoinUptoRow : OpenClaim := { program := "ytifdadlhmlhfiaagreatdoor", sum := "09debe9f5d817b1114ec9bcb8bfaace56bf022b6f5d8cb608858a90f27bf3903", func := "loop.example/pub-profileroads/laws.FnExactJoin", spec := "fnExactJoin", unfollowed := true, recurses := true, named := ["internal/strconv.uint64pow10", "math/bits.deBruijn32tab", "math/bits.deBruijn64tab", "loop.example/pub-profileroads/pub/goprofile.errMalformed"], ifaces := true, apart := false, laid := [("math/bits.deBruijn32tab", laid_math_bits_deBruijn32tab), ("math/bits.deBruijn64tab", laid_math_bits_deBruijn64tab), ("internal/strconv.uint64pow10", laid_internal_strconv_uint64pow10), ("loop.example/pub-profileroads/pub/goprofile.errMalformed", laid_loop_example_pub_profileroads_pub_goprofile_errMalformed)], narrowed := true }
def FnExactJoinUptoSaid : Prop := fnExactJoinUptoRow.holds Tryz.pinned (OpenSpec.upto fnExactJoinSpec)

end Rows
end Go.Proofs.YtifdadlhmlhfiaaGreatDoor
