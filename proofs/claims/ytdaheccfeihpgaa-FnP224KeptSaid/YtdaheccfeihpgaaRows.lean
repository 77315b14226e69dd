/-
  No cell of these rows narrows 'for every input' (looked for: loops, veiled, ifaces, maps, wideKeys, modest, calm, conditions, laid).
  DERIVED. THE GIVEN ROWS OF THIS SEAT. 5 by the template 'for every input the law returns true; each argument reads behind the call as it read before'; 0 by the template 'total and deterministic' (their statements: YtdaheccfeihpgaaTotals.lean).
  GIVEN WITH THE SEED: the statements are not yours to turn. If you find one false, say at which input.
  Laid BY PROGRAM, IN A SANDBOX (cutbox-rows.mjs): the forced cells as the released guide's own fill.sh prints them over the translation 0331d9f30e12109d… (all of the seat's roots in one cut). By AI agents, Wed Nov 11 2026. No macro, syntax, notation, axiom, sorry.
-/
import Derived.Test.YtdaheccfeihpgaaChecked
import GoSem.Claim
import GoSem.ClaimJoined
import GoSem.ClaimMapViews
import Derived.JoinedTies
import Derived.KernelRfl
namespace Go.Proofs.Ytdaheccfeihpgaa
/- THE CELL 'sum', in the pinned program and in every row, IS THE sha256 OF THE DUMP (.gsa) THAT YtdaheccfeihpgaaProg.lean LOADS. Nothing in Lean hashes anything: it is a label: what it is worth is what the hold of that sum in a sandbox is worth. -/
noncomputable def Try.pinned : Pinned := { name := "ytdaheccfeihpgaa", sum := "0331d9f30e12109dd2b2bb99931c8212b0608f9877db8579c36b6a8aa3cf947c", checked := Try.checked }
namespace Rows
def none {H : Type} : Left H := { results := [], args := [] }

/-- 'laws.FnP224Polynomial': WHATEVER THE INPUT: true; the input reads as it did. -/
def fnP224PolynomialSpec : ChangeSpec := { name := "fnP224Polynomial", fn := fun _ => fun
  | [d] => { results := [.lit (.bool true)], args := [d] }
  | _ => none }
def fnP224PolynomialRow : OpenClaim := { program := "ytdaheccfeihpgaa", sum := "0331d9f30e12109dd2b2bb99931c8212b0608f9877db8579c36b6a8aa3cf947c", func := "loop.example/pub-g03240/laws.FnP224Polynomial", spec := "fnP224Polynomial", inPlace := ["math/bits.Sub64", "math/bits.Add64"], apart := false }
def FnP224PolynomialSaid : Prop := fnP224PolynomialRow.holds Try.pinned (OpenSpec.ofChange fnP224PolynomialSpec)

/-- ITS FALSE NEIGHBOUR: 'it returns false'. Refute it at one input. -/
def fnP224PolynomialWrong : ChangeSpec := { name := "fnP224Polynomial", fn := fun _ => fun
  | [d] => { results := [.lit (.bool false)], args := [d] }
  | _ => none }
def FnP224PolynomialWrongFalsely : Prop := fnP224PolynomialRow.holds Try.pinned (OpenSpec.ofChange fnP224PolynomialWrong)

/-- 'laws.FnP224Sqrt': WHATEVER THE INPUT: true; the input reads as it did. -/
def fnP224SqrtSpec : ChangeSpec := { name := "fnP224Sqrt", fn := fun _ => fun
  | [d] => { results := [.lit (.bool true)], args := [d] }
  | _ => none }
def fnP224SqrtRow : OpenClaim := { program := "ytdaheccfeihpgaa", sum := "0331d9f30e12109dd2b2bb99931c8212b0608f9877db8579c36b6a8aa3cf947c", func := "loop.example/pub-g03240/laws.FnP224Sqrt", spec := "fnP224Sqrt", inPlace := ["math/bits.Sub64", "math/bits.Add64"], apart := false }
def FnP224SqrtSaid : Prop := fnP224SqrtRow.holds Try.pinned (OpenSpec.ofChange fnP224SqrtSpec)

/-- ITS FALSE NEIGHBOUR: 'it returns false'. Refute it at one input. -/
def fnP224SqrtWrong : ChangeSpec := { name := "fnP224Sqrt", fn := fun _ => fun
  | [d] => { results := [.lit (.bool false)], args := [d] }
  | _ => none }
def FnP224SqrtWrongFalsely : Prop := fnP224SqrtRow.holds Try.pinned (OpenSpec.ofChange fnP224SqrtWrong)

/-- 'laws.FnP224Kept': WHATEVER THE INPUT: true; the input reads as it did. -/
def fnP224KeptSpec : ChangeSpec := { name := "fnP224Kept", fn := fun _ => fun
  | [d1, d2] => { results := [.lit (.bool true)], args := [d1, d2] }
  | _ => none }
def fnP224KeptRow : OpenClaim := { program := "ytdaheccfeihpgaa", sum := "0331d9f30e12109dd2b2bb99931c8212b0608f9877db8579c36b6a8aa3cf947c", func := "loop.example/pub-g03240/laws.FnP224Kept", spec := "fnP224Kept", inPlace := ["math/bits.Sub64", "math/bits.Add64"], apart := false }
def FnP224KeptSaid : Prop := fnP224KeptRow.holds Try.pinned (OpenSpec.ofChange fnP224KeptSpec)

/-- ITS FALSE NEIGHBOUR: 'it returns false'. Refute it at one input. -/
def fnP224KeptWrong : ChangeSpec := { name := "fnP224Kept", fn := fun _ => fun
  | [d1, d2] => { results := [.lit (.bool false)], args := [d1, d2] }
  | _ => none }
def FnP224KeptWrongFalsely : Prop := fnP224KeptRow.holds Try.pinned (OpenSpec.ofChange fnP224KeptWrong)

/-- 'laws.FnP224Commutes': WHATEVER THE INPUT: true; the input reads as it did. -/
def fnP224CommutesSpec : ChangeSpec := { name := "fnP224Commutes", fn := fun _ => fun
  | [d1, d2] => { results := [.lit (.bool true)], args := [d1, d2] }
  | _ => none }
def fnP224CommutesRow : OpenClaim := { program := "ytdaheccfeihpgaa", sum := "0331d9f30e12109dd2b2bb99931c8212b0608f9877db8579c36b6a8aa3cf947c", func := "loop.example/pub-g03240/laws.FnP224Commutes", spec := "fnP224Commutes", inPlace := ["math/bits.Sub64", "math/bits.Add64"], apart := false }
def FnP224CommutesSaid : Prop := fnP224CommutesRow.holds Try.pinned (OpenSpec.ofChange fnP224CommutesSpec)

/-- ITS FALSE NEIGHBOUR: 'it returns false'. Refute it at one input. -/
def fnP224CommutesWrong : ChangeSpec := { name := "fnP224Commutes", fn := fun _ => fun
  | [d1, d2] => { results := [.lit (.bool false)], args := [d1, d2] }
  | _ => none }
def FnP224CommutesWrongFalsely : Prop := fnP224CommutesRow.holds Try.pinned (OpenSpec.ofChange fnP224CommutesWrong)

/-- 'laws.FnP224Neutral': WHATEVER THE INPUT: true; the input reads as it did. -/
def fnP224NeutralSpec : ChangeSpec := { name := "fnP224Neutral", fn := fun _ => fun
  | [d] => { results := [.lit (.bool true)], args := [d] }
  | _ => none }
def fnP224NeutralRow : OpenClaim := { program := "ytdaheccfeihpgaa", sum := "0331d9f30e12109dd2b2bb99931c8212b0608f9877db8579c36b6a8aa3cf947c", func := "loop.example/pub-g03240/laws.FnP224Neutral", spec := "fnP224Neutral", inPlace := ["math/bits.Add64", "math/bits.Sub64"], apart := false }
def FnP224NeutralSaid : Prop := fnP224NeutralRow.holds Try.pinned (OpenSpec.ofChange fnP224NeutralSpec)

/-- ITS FALSE NEIGHBOUR: 'it returns false'. Refute it at one input. -/
def fnP224NeutralWrong : ChangeSpec := { name := "fnP224Neutral", fn := fun _ => fun
  | [d] => { results := [.lit (.bool false)], args := [d] }
  | _ => none }
def FnP224NeutralWrongFalsely : Prop := fnP224NeutralRow.holds Try.pinned (OpenSpec.ofChange fnP224NeutralWrong)

/- THE SECOND FORM. 'bulk': how many values and letters a reading holds, each counted each time it is reached (what is shared counts as often as it is met; a slice's spare places count too). A statement '..UptoSaid' is the law's where the arguments, and the package variables that the reading takes, are together of bulk at most 1048576: NARROWER than '..Said'. Prove '..Said' where nothing that the law and all that it calls make is longer than what came in: it says more and counts as full. Else prove '..UptoSaid'. A law counts once. -/
mutual
def uptoBulk {H : Type} : DataW H → Nat
  | .lit (.string bytes) => bytes.length + 1
  | .lit _ => 1
  | .nil => 1
  | .ptr d => uptoBulk d + 1
  | .slice elems spare => uptoBulkAll elems + uptoBulkAll spare + 1
  | .agg parts => uptoBulkAll parts + 1
  | .iface _ d => uptoBulk d + 1
  | .map entries => uptoBulkEntries entries + 1
  | .held _ => 1
def uptoBulkAll {H : Type} : List (DataW H) → Nat
  | [] => 0
  | d :: r => uptoBulk d + uptoBulkAll r
def uptoBulkEntries {H : Type} : List (Lit × DataW H) → Nat
  | [] => 0
  | x :: r => uptoBulkEntry x + uptoBulkEntries r
def uptoBulkEntry {H : Type} : Lit × DataW H → Nat
  | (.string bytes, d) => bytes.length + uptoBulk d + 1
  | (_, d) => uptoBulk d + 1
 end
def uptoSmall : (H : Type) → List (DataW H) → Bool := fun _ ds => decide (uptoBulkAll ds ≤ 1048576)
def OpenSpec.upto (s : _root_.Go.ChangeSpec) : _root_.Go.OpenSpec := { _root_.Go.OpenSpec.ofChange s with cond := some uptoSmall }

/-- 'laws.FnP224Polynomial', WHERE WHAT IT READS IS OF BULK AT MOST 1048576: true; the input reads as it did. -/
def fnP224PolynomialUptoRow : OpenClaim := { program := "ytdaheccfeihpgaa", sum := "0331d9f30e12109dd2b2bb99931c8212b0608f9877db8579c36b6a8aa3cf947c", func := "loop.example/pub-g03240/laws.FnP224Polynomial", spec := "fnP224Polynomial", inPlace := ["math/bits.Sub64", "math/bits.Add64"], apart := false, narrowed := true }
def FnP224PolynomialUptoSaid : Prop := fnP224PolynomialUptoRow.holds Try.pinned (OpenSpec.upto fnP224PolynomialSpec)

/-- 'laws.FnP224Sqrt', WHERE WHAT IT READS IS OF BULK AT MOST 1048576: true; the input reads as it did. -/
def fnP224SqrtUptoRow : OpenClaim := { program := "ytdaheccfeihpgaa", sum := "0331d9f30e12109dd2b2bb99931c8212b0608f9877db8579c36b6a8aa3cf947c", func := "loop.example/pub-g03240/laws.FnP224Sqrt", spec := "fnP224Sqrt", inPlace := ["math/bits.Sub64", "math/bits.Add64"], apart := false, narrowed := true }
def FnP224SqrtUptoSaid : Prop := fnP224SqrtUptoRow.holds Try.pinned (OpenSpec.upto fnP224SqrtSpec)

/-- 'laws.FnP224Kept', WHERE WHAT IT READS IS OF BULK AT MOST 1048576: true; the input reads as it did. -/
def fnP224KeptUptoRow : OpenClaim := { program := "ytdaheccfeihpgaa", sum := "0331d9f30e12109dd2b2bb99931c8212b0608f9877db8579c36b6a8aa3cf947c", func := "loop.example/pub-g03240/laws.FnP224Kept", spec := "fnP224Kept", inPlace := ["math/bits.Sub64", "math/bits.Add64"], apart := false, narrowed := true }
def FnP224KeptUptoSaid : Prop := fnP224KeptUptoRow.holds Try.pinned (OpenSpec.upto fnP224KeptSpec)

/-- 'laws.FnP224Commutes', WHERE WHAT IT READS IS OF BULK AT MOST 1048576: true; the input reads as it did. -/
def fnP224CommutesUptoRow : OpenClaim := { program := "ytdaheccfeihpgaa", sum := "0331d9f30e12109dd2b2bb99931c8212b0608f9877db8579c36b6a8aa3cf947c", func := "loop.example/pub-g03240/laws.FnP224Commutes", spec := "fnP224Commutes", inPlace := ["math/bits.Sub64", "math/bits.Add64"], apart := false, narrowed := true }
def FnP224CommutesUptoSaid : Prop := fnP224CommutesUptoRow.holds Try.pinned (OpenSpec.upto fnP224CommutesSpec)

/-- 'laws.FnP224Neutral', WHERE WHAT IT READS IS OF BULK AT MOST 1048576: true; the input reads as it did. -/
def fnP224NeutralUptoRow : OpenClaim := { program := "ytdaheccfeihpgaa", sum := "0331d9f30e12109dd2b2bb99931c8212b0608f9877db8579c36b6a8aa3cf947c", func := "loop.example/pub-g03240/laws.FnP224Neutral", spec := "fnP224Neutral", inPlace := ["math/bits.Add64", "math/bits.Sub64"], apart := false, narrowed := true }
def FnP224NeutralUptoSaid : Prop := fnP224NeutralUptoRow.holds Try.pinned (OpenSpec.upto fnP224NeutralSpec)

end Rows
end Go.Proofs.Ytdaheccfeihpgaa
