/-
  No cell of these rows narrows 'for every input' (looked for: loops, veiled, ifaces, maps, wideKeys, modest, calm, conditions, laid).
  DERIVED. THE GIVEN ROWS OF THIS SEAT. 6 by the template 'for every input the law returns true; each argument reads behind the call as it read before'; 0 by the template 'total and deterministic' (their statements: YtahcaoenddapoaaTotals.lean).
  GIVEN WITH THE SEED: the statements are not yours to turn. If you find one false, say at which input.
  Laid BY PROGRAM, IN A SANDBOX (cutbox-rows.mjs): the forced cells as the released guide's own fill.sh prints them over the translation 050eb7efea155658… (all of the seat's roots in one cut). By AI agents, Wed Nov 11 2026. No macro, syntax, notation, axiom, sorry.
-/
import Derived.Test.YtahcaoenddapoaaChecked
import GoSem.Claim
import GoSem.ClaimJoined
import GoSem.ClaimMapViews
import Derived.JoinedTies
import Derived.KernelRfl
namespace Go.Proofs.Ytahcaoenddapoaa
/- THE CELL 'sum', in the pinned program and in every row, IS THE sha256 OF THE DUMP (.gsa) THAT YtahcaoenddapoaaProg.lean LOADS. Nothing in Lean hashes anything: it is a label: what it is worth is what the hold of that sum in a sandbox is worth. -/
noncomputable def Try.pinned : Pinned := { name := "ytahcaoenddapoaa", sum := "050eb7efea155658e22a1eb3d92a581151873f9234dcef4082e2c109f41fc3c0", checked := Try.checked }
namespace Rows
def none {H : Type} : Left H := { results := [], args := [] }

/-- 'laws.FnMangle': WHATEVER THE INPUT: true; the input reads as it did. -/
def fnMangleSpec : ChangeSpec := { name := "fnMangle", fn := fun _ => fun
  | [d] => { results := [.lit (.bool true)], args := [d] }
  | _ => none }
def fnMangleRow : OpenClaim := { program := "ytahcaoenddapoaa", sum := "050eb7efea155658e22a1eb3d92a581151873f9234dcef4082e2c109f41fc3c0", func := "mssqltds/laws.FnMangle", spec := "fnMangle", unfollowed := true, recurses := true, apart := false }
def FnMangleSaid : Prop := fnMangleRow.holds Try.pinned (OpenSpec.ofChange fnMangleSpec)

/-- ITS FALSE NEIGHBOUR: 'it returns false'. Refute it at one input. -/
def fnMangleWrong : ChangeSpec := { name := "fnMangle", fn := fun _ => fun
  | [d] => { results := [.lit (.bool false)], args := [d] }
  | _ => none }
def FnMangleWrongFalsely : Prop := fnMangleRow.holds Try.pinned (OpenSpec.ofChange fnMangleWrong)

/-- 'laws.FnUCS2': WHATEVER THE INPUT: true; the input reads as it did. -/
def fnUCS2Spec : ChangeSpec := { name := "fnUCS2", fn := fun _ => fun
  | [d] => { results := [.lit (.bool true)], args := [d] }
  | _ => none }
def fnUCS2Row : OpenClaim := { program := "ytahcaoenddapoaa", sum := "050eb7efea155658e22a1eb3d92a581151873f9234dcef4082e2c109f41fc3c0", func := "mssqltds/laws.FnUCS2", spec := "fnUCS2", unfollowed := true, recurses := true, apart := false }
def FnUCS2Said : Prop := fnUCS2Row.holds Try.pinned (OpenSpec.ofChange fnUCS2Spec)

/-- ITS FALSE NEIGHBOUR: 'it returns false'. Refute it at one input. -/
def fnUCS2Wrong : ChangeSpec := { name := "fnUCS2", fn := fun _ => fun
  | [d] => { results := [.lit (.bool false)], args := [d] }
  | _ => none }
def FnUCS2WrongFalsely : Prop := fnUCS2Row.holds Try.pinned (OpenSpec.ofChange fnUCS2Wrong)

/-- 'laws.FnPackets': WHATEVER THE INPUT: true; the input reads as it did. -/
def fnPacketsSpec : ChangeSpec := { name := "fnPackets", fn := fun _ => fun
  | [d1, d2, d3] => { results := [.lit (.bool true)], args := [d1, d2, d3] }
  | _ => none }
def fnPacketsRow : OpenClaim := { program := "ytahcaoenddapoaa", sum := "050eb7efea155658e22a1eb3d92a581151873f9234dcef4082e2c109f41fc3c0", func := "mssqltds/laws.FnPackets", spec := "fnPackets", unfollowed := true, recurses := true, apart := false }
def FnPacketsSaid : Prop := fnPacketsRow.holds Try.pinned (OpenSpec.ofChange fnPacketsSpec)

/-- ITS FALSE NEIGHBOUR: 'it returns false'. Refute it at one input. -/
def fnPacketsWrong : ChangeSpec := { name := "fnPackets", fn := fun _ => fun
  | [d1, d2, d3] => { results := [.lit (.bool false)], args := [d1, d2, d3] }
  | _ => none }
def FnPacketsWrongFalsely : Prop := fnPacketsRow.holds Try.pinned (OpenSpec.ofChange fnPacketsWrong)

/-- 'laws.FnLogin': WHATEVER THE INPUT: true; the input reads as it did. -/
def fnLoginSpec : ChangeSpec := { name := "fnLogin", fn := fun _ => fun
  | [d] => { results := [.lit (.bool true)], args := [d] }
  | _ => none }
def fnLoginRow : OpenClaim := { program := "ytahcaoenddapoaa", sum := "050eb7efea155658e22a1eb3d92a581151873f9234dcef4082e2c109f41fc3c0", func := "mssqltds/laws.FnLogin", spec := "fnLogin", unfollowed := true, recurses := true, apart := false }
def FnLoginSaid : Prop := fnLoginRow.holds Try.pinned (OpenSpec.ofChange fnLoginSpec)

/-- ITS FALSE NEIGHBOUR: 'it returns false'. Refute it at one input. -/
def fnLoginWrong : ChangeSpec := { name := "fnLogin", fn := fun _ => fun
  | [d] => { results := [.lit (.bool false)], args := [d] }
  | _ => none }
def FnLoginWrongFalsely : Prop := fnLoginRow.holds Try.pinned (OpenSpec.ofChange fnLoginWrong)

/-- 'laws.FnDateTime': WHATEVER THE INPUT: true; the input reads as it did. -/
def fnDateTimeSpec : ChangeSpec := { name := "fnDateTime", fn := fun _ => fun
  | [d1, d2] => { results := [.lit (.bool true)], args := [d1, d2] }
  | _ => none }
def fnDateTimeRow : OpenClaim := { program := "ytahcaoenddapoaa", sum := "050eb7efea155658e22a1eb3d92a581151873f9234dcef4082e2c109f41fc3c0", func := "mssqltds/laws.FnDateTime", spec := "fnDateTime", inPlace := ["math.Float64bits", "math.Float64frombits", "math.Float32bits"], unfollowed := true, recurses := true, apart := false }
def FnDateTimeSaid : Prop := fnDateTimeRow.holds Try.pinned (OpenSpec.ofChange fnDateTimeSpec)

/-- ITS FALSE NEIGHBOUR: 'it returns false'. Refute it at one input. -/
def fnDateTimeWrong : ChangeSpec := { name := "fnDateTime", fn := fun _ => fun
  | [d1, d2] => { results := [.lit (.bool false)], args := [d1, d2] }
  | _ => none }
def FnDateTimeWrongFalsely : Prop := fnDateTimeRow.holds Try.pinned (OpenSpec.ofChange fnDateTimeWrong)

/-- 'laws.FnPrelogin': WHATEVER THE INPUT: true; the input reads as it did. -/
def fnPreloginSpec : ChangeSpec := { name := "fnPrelogin", fn := fun _ => fun
  | [d] => { results := [.lit (.bool true)], args := [d] }
  | _ => none }
def fnPreloginRow : OpenClaim := { program := "ytahcaoenddapoaa", sum := "050eb7efea155658e22a1eb3d92a581151873f9234dcef4082e2c109f41fc3c0", func := "mssqltds/laws.FnPrelogin", spec := "fnPrelogin", unfollowed := true, recurses := true, apart := false }
def FnPreloginSaid : Prop := fnPreloginRow.holds Try.pinned (OpenSpec.ofChange fnPreloginSpec)

/-- ITS FALSE NEIGHBOUR: 'it returns false'. Refute it at one input. -/
def fnPreloginWrong : ChangeSpec := { name := "fnPrelogin", fn := fun _ => fun
  | [d] => { results := [.lit (.bool false)], args := [d] }
  | _ => none }
def FnPreloginWrongFalsely : Prop := fnPreloginRow.holds Try.pinned (OpenSpec.ofChange fnPreloginWrong)

/- THE SECOND FORM. 'bulk': how many values and letters a reading holds, each counted each time it is reached (what is shared counts as often as it is met; a slice's spare places count too). A statement '..UptoSaid' is the law's where the arguments, and the package variables that the reading takes, are together of bulk at most 1048576: NARROWER than '..Said'. Prove '..Said' where nothing that the law and all that it calls make is longer than what came in: it says more and counts as full. Else prove '..UptoSaid'. A law counts once. -/
mutual
def uptoBulk {H : Type} : DataW H → Nat
  | .lit (.string bytes) => bytes.length + 1
  | .lit _ => 1
  | .nil => 1
  | .ptr d => uptoBulk d + 1
  | .slice elems spare => uptoBulkAll elems + uptoBulkAll spare + 1
  | .agg parts => uptoBulkAll parts + 1
  | .iface _ d => uptoBulk d + 1
  | .map entries => uptoBulkEntries entries + 1
  | .held _ => 1
def uptoBulkAll {H : Type} : List (DataW H) → Nat
  | [] => 0
  | d :: r => uptoBulk d + uptoBulkAll r
def uptoBulkEntries {H : Type} : List (Lit × DataW H) → Nat
  | [] => 0
  | x :: r => uptoBulkEntry x + uptoBulkEntries r
def uptoBulkEntry {H : Type} : Lit × DataW H → Nat
  | (.string bytes, d) => bytes.length + uptoBulk d + 1
  | (_, d) => uptoBulk d + 1
 end
def uptoSmall : (H : Type) → List (DataW H) → Bool := fun _ ds => decide (uptoBulkAll ds ≤ 1048576)
def OpenSpec.upto (s : _root_.Go.ChangeSpec) : _root_.Go.OpenSpec := { _root_.Go.OpenSpec.ofChange s with cond := some uptoSmall }

/-- 'laws.FnMangle', WHERE WHAT IT READS IS OF BULK AT MOST 1048576: true; the input reads as it did. -/
def fnMangleUptoRow : OpenClaim := { program := "ytahcaoenddapoaa", sum := "050eb7efea155658e22a1eb3d92a581151873f9234dcef4082e2c109f41fc3c0", func := "mssqltds/laws.FnMangle", spec := "fnMangle", unfollowed := true, recurses := true, apart := false, narrowed := true }
def FnMangleUptoSaid : Prop := fnMangleUptoRow.holds Try.pinned (OpenSpec.upto fnMangleSpec)

/-- 'laws.FnUCS2', WHERE WHAT IT READS IS OF BULK AT MOST 1048576: true; the input reads as it did. -/
def fnUCS2UptoRow : OpenClaim := { program := "ytahcaoenddapoaa", sum := "050eb7efea155658e22a1eb3d92a581151873f9234dcef4082e2c109f41fc3c0", func := "mssqltds/laws.FnUCS2", spec := "fnUCS2", unfollowed := true, recurses := true, apart := false, narrowed := true }
def FnUCS2UptoSaid : Prop := fnUCS2UptoRow.holds Try.pinned (OpenSpec.upto fnUCS2Spec)

/-- 'laws.FnPackets', WHERE WHAT IT READS IS OF BULK AT MOST 1048576: true; the input reads as it did. -/
def fnPacketsUptoRow : OpenClaim := { program := "ytahcaoenddapoaa", sum := "050eb7efea155658e22a1eb3d92a581151873f9234dcef4082e2c109f41fc3c0", func := "mssqltds/laws.FnPackets", spec := "fnPackets", unfollowed := true, recurses := true, apart := false, narrowed := true }
def FnPacketsUptoSaid : Prop := fnPacketsUptoRow.holds Try.pinned (OpenSpec.upto fnPacketsSpec)

/-- 'laws.FnLogin', WHERE WHAT IT READS IS OF BULK AT MOST 1048576: true; the input reads as it did. -/
def fnLoginUptoRow : OpenClaim := { program := "ytahcaoenddapoaa", sum := "050eb7efea155658e22a1eb3d92a581151873f9234dcef4082e2c109f41fc3c0", func := "mssqltds/laws.FnLogin", spec := "fnLogin", unfollowed := true, recurses := true, apart := false, narrowed := true }
def FnLoginUptoSaid : Prop := fnLoginUptoRow.holds Try.pinned (OpenSpec.upto fnLoginSpec)

/-- 'laws.FnDateTime', WHERE WHAT IT READS IS OF BULK AT MOST 1048576: true; the input reads as it did. -/
def fnDateTimeUptoRow : OpenClaim := { program := "ytahcaoenddapoaa", sum := "050eb7efea155658e22a1eb3d92a581151873f9234dcef4082e2c109f41fc3c0", func := "mssqltds/laws.FnDateTime", spec := "fnDateTime", inPlace := ["math.Float64bits", "math.Float64frombits", "math.Float32bits"], unfollowed := true, recurses := true, apart := false, narrowed := true }
def FnDateTimeUptoSaid : Prop := fnDateTimeUptoRow.holds Try.pinned (OpenSpec.upto fnDateTimeSpec)

/-- 'laws.FnPrelogin', WHERE WHAT IT READS IS OF BULK AT MOST 1048576: true; the input reads as it did. -/
def fnPreloginUptoRow : OpenClaim := { program := "ytahcaoenddapoaa", sum := "050eb7efea155658e22a1eb3d92a581151873f9234dcef4082e2c109f41fc3c0", func := "mssqltds/laws.FnPrelogin", spec := "fnPrelogin", unfollowed := true, recurses := true, apart := false, narrowed := true }
def FnPreloginUptoSaid : Prop := fnPreloginUptoRow.holds Try.pinned (OpenSpec.upto fnPreloginSpec)

end Rows
end Go.Proofs.Ytahcaoenddapoaa
