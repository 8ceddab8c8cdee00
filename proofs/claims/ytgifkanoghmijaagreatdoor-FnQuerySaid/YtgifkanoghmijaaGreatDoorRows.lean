/-
  No cell of these rows narrows 'for every input' (looked for: loops, veiled, ifaces, maps, wideKeys, modest, calm, conditions, laid).
  DERIVED. THE GIVEN ROWS OF THIS SEAT. 2 by the template 'for every input the law returns true; each argument reads behind the call as it read before'; 0 by the template 'total and deterministic' (their statements: YtgifkanoghmijaaGreatDoorTotals.lean).
  GIVEN WITH THE SEED: the statements are not yours to turn. If you find one false, say at which input.
  Laid BY PROGRAM, IN A SANDBOX (cutbox-rows.mjs): the forced cells as the released guide's own fill.sh prints them over the translation 415ff16e6a636a43… (all of the seat's roots in one cut). By AI agents, Wed Nov 11 2026. No macro, syntax, notation, axiom, sorry.
-/
import Derived.Test.YtgifkanoghmijaaGreatDoorChecked
import GoSem.Claim
import GoSem.ClaimJoined
import GoSem.ClaimMapViews
import Derived.JoinedTies
import Derived.KernelRfl
namespace Go.Proofs.YtgifkanoghmijaaGreatDoor
/- THE CELL 'sum', in the pinned program and in every row, IS THE sha256 OF THE DUMP (.gsa) THAT YtgifkanoghmijaaGreatDoorProg.lean LOADS. Nothing in Lean hashes anything: it is a label: what it is worth is what the hold of that sum in a sandbox is worth. -/
noncomputable def Tryz.pinned : Pinned := { name := "ytgifkanoghmijaagreatdoor", sum := "415ff16e6a636a43491f407c1fc6751c25aa7b8450a0fa4dd2117418c083bd25", checked := Tryz.checked }
namespace Rows
def none {H : Type} : Left H := { results := [], args := [] }

/-- 'laws.FnQuery': WHATEVER THE INPUT: true; the input reads as it did. -/
def fnQuerySpec : ChangeSpec := { name := "fnQuery", fn := fun _ => fun
  | [d1, d2, d3, d4] => { results := [.lit (.bool true)], args := [d1, d2, d3, d4] }
  | _ => none }
def fnQueryRow : OpenClaim := { program := "ytgifkanoghmijaagreatdoor", sum := "415ff16e6a636a43491f407c1fc6751c25aa7b8450a0fa4dd2117418c083bd25", func := "beevikntp/laws.FnQuery", spec := "fnQuery", unfollowed := true, recurses := true, named := ["beevikntp/pub/sha256._K", "beevikntp/pub/sha512._K", "beevikntp/pub/aes.powx", "beevikntp/pub/aes.sbox0", "beevikntp/pub/aes.td0", "beevikntp/pub/aes.td1", "beevikntp/pub/aes.td2", "beevikntp/pub/aes.td3", "beevikntp/pub/aes.te0", "beevikntp/pub/aes.te1", "beevikntp/pub/aes.te2", "beevikntp/pub/aes.te3"], apart := false }
def FnQuerySaid : Prop := fnQueryRow.holds Tryz.pinned (OpenSpec.ofChange fnQuerySpec)

/-- ITS FALSE NEIGHBOUR: 'it returns false'. Refute it at one input. -/
def fnQueryWrong : ChangeSpec := { name := "fnQuery", fn := fun _ => fun
  | [d1, d2, d3, d4] => { results := [.lit (.bool false)], args := [d1, d2, d3, d4] }
  | _ => none }
def FnQueryWrongFalsely : Prop := fnQueryRow.holds Tryz.pinned (OpenSpec.ofChange fnQueryWrong)

/-- 'laws.FnValid': WHATEVER THE INPUT: true; the input reads as it did. -/
def fnValidSpec : ChangeSpec := { name := "fnValid", fn := fun _ => fun
  | [d1, d2, d3] => { results := [.lit (.bool true)], args := [d1, d2, d3] }
  | _ => none }
def fnValidRow : OpenClaim := { program := "ytgifkanoghmijaagreatdoor", sum := "415ff16e6a636a43491f407c1fc6751c25aa7b8450a0fa4dd2117418c083bd25", func := "beevikntp/laws.FnValid", spec := "fnValid", unfollowed := true, recurses := true, named := ["beevikntp/pub/sha256._K", "beevikntp/pub/sha512._K", "beevikntp/pub/aes.powx", "beevikntp/pub/aes.sbox0", "beevikntp/pub/aes.td0", "beevikntp/pub/aes.td1", "beevikntp/pub/aes.td2", "beevikntp/pub/aes.td3", "beevikntp/pub/aes.te0", "beevikntp/pub/aes.te1", "beevikntp/pub/aes.te2", "beevikntp/pub/aes.te3"], apart := false }
def FnValidSaid : Prop := fnValidRow.holds Tryz.pinned (OpenSpec.ofChange fnValidSpec)

/-- ITS FALSE NEIGHBOUR: 'it returns false'. Refute it at one input. -/
def fnValidWrong : ChangeSpec := { name := "fnValid", fn := fun _ => fun
  | [d1, d2, d3] => { results := [.lit (.bool false)], args := [d1, d2, d3] }
  | _ => none }
def FnValidWrongFalsely : Prop := fnValidRow.holds Tryz.pinned (OpenSpec.ofChange fnValidWrong)

/- THE SECOND FORM. 'bulk': how many values and letters a reading holds, each counted each time it is reached (what is shared counts as often as it is met; a slice's spare places count too). A statement '..UptoSaid' is the law's where the arguments, and the package variables that the reading takes, are together of bulk at most 1048576: NARROWER than '..Said'. Prove '..Said' where nothing that the law and all that it calls make is longer than what came in: it says more and counts as full. Else prove '..UptoSaid'. A law counts once. -/
mutual
def uptoBulk {H : Type} : DataW H → Nat
  | .lit (.string bytes) => bytes.length + 1
  | .lit _ => 1
  | .nil => 1
  | .ptr d => uptoBulk d + 1
  | .slice elems spare => uptoBulkAll elems + uptoBulkAll spare + 1
  | .agg parts => uptoBulkAll parts + 1
  | .iface _ d => uptoBulk d + 1
  | .map entries => uptoBulkEntries entries + 1
  | .held _ => 1
def uptoBulkAll {H : Type} : List (DataW H) → Nat
  | [] => 0
  | d :: r => uptoBulk d + uptoBulkAll r
def uptoBulkEntries {H : Type} : List (Lit × DataW H) → Nat
  | [] => 0
  | x :: r => uptoBulkEntry x + uptoBulkEntries r
def uptoBulkEntry {H : Type} : Lit × DataW H → Nat
  | (.string bytes, d) => bytes.length + uptoBulk d + 1
  | (_, d) => uptoBulk d + 1
 end
def uptoSmall : (H : Type) → List (DataW H) → Bool := fun _ ds => decide (uptoBulkAll ds ≤ 1048576)
def OpenSpec.upto (s : _root_.Go.ChangeSpec) : _root_.Go.OpenSpec := { _root_.Go.OpenSpec.ofChange s with cond := some uptoSmall }

/-- 'laws.FnQuery', WHERE WHAT IT READS IS OF BULK AT MOST 1048576: true; the input reads as it did. -/
def fnQueryUptoRow : OpenClaim := { program := "ytgifkanoghmijaagreatdoor", sum := "415ff16e6a636a43491f407c1fc6751c25aa7b8450a0fa4dd2117418c083bd25", func := "beevikntp/laws.FnQuery", spec := "fnQuery", unfollowed := true, recurses := true, named := ["beevikntp/pub/sha256._K", "beevikntp/pub/sha512._K", "beevikntp/pub/aes.powx", "beevikntp/pub/aes.sbox0", "beevikntp/pub/aes.td0", "beevikntp/pub/aes.td1", "beevikntp/pub/aes.td2", "beevikntp/pub/aes.td3", "beevikntp/pub/aes.te0", "beevikntp/pub/aes.te1", "beevikntp/pub/aes.te2", "beevikntp/pub/aes.te3"], apart := false, narrowed := true }
def FnQueryUptoSaid : Prop := fnQueryUptoRow.holds Tryz.pinned (OpenSpec.upto fnQuerySpec)

/-- 'laws.FnValid', WHERE WHAT IT READS IS OF BULK AT MOST 1048576: true; the input reads as it did. -/
def fnValidUptoRow : OpenClaim := { program := "ytgifkanoghmijaagreatdoor", sum := "415ff16e6a636a43491f407c1fc6751c25aa7b8450a0fa4dd2117418c083bd25", func := "beevikntp/laws.FnValid", spec := "fnValid", unfollowed := true, recurses := true, named := ["beevikntp/pub/sha256._K", "beevikntp/pub/sha512._K", "beevikntp/pub/aes.powx", "beevikntp/pub/aes.sbox0", "beevikntp/pub/aes.td0", "beevikntp/pub/aes.td1", "beevikntp/pub/aes.td2", "beevikntp/pub/aes.td3", "beevikntp/pub/aes.te0", "beevikntp/pub/aes.te1", "beevikntp/pub/aes.te2", "beevikntp/pub/aes.te3"], apart := false, narrowed := true }
def FnValidUptoSaid : Prop := fnValidUptoRow.holds Tryz.pinned (OpenSpec.upto fnValidSpec)

end Rows
end Go.Proofs.YtgifkanoghmijaaGreatDoor
