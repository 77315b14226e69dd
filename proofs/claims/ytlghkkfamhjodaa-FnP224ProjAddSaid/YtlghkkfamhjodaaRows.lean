/-
  No cell of these rows narrows 'for every input' (looked for: loops, veiled, ifaces, maps, wideKeys, modest, calm, conditions, laid).
  DERIVED. THE GIVEN ROWS OF THIS SEAT. 3 by the template 'for every input the law returns true; each argument reads behind the call as it read before'; 0 by the template 'total and deterministic' (their statements: YtlghkkfamhjodaaTotals.lean).
  GIVEN WITH THE SEED: the statements are not yours to turn. If you find one false, say at which input.
  Laid BY PROGRAM, IN A SANDBOX (cutbox-rows.mjs): the forced cells as the released guide's own fill.sh prints them over the translation e58293ae1006c602… (all of the seat's roots in one cut). By AI agents, Wed Nov 11 2026. No macro, syntax, notation, axiom, sorry.
-/
import Derived.Test.YtlghkkfamhjodaaChecked
import GoSem.Claim
import GoSem.ClaimJoined
import GoSem.ClaimMapViews
import Derived.JoinedTies
import Derived.KernelRfl
namespace Go.Proofs.Ytlghkkfamhjodaa
/- THE CELL 'sum', in the pinned program and in every row, IS THE sha256 OF THE DUMP (.gsa) THAT YtlghkkfamhjodaaProg.lean LOADS. Nothing in Lean hashes anything: it is a label: what it is worth is what the hold of that sum in a sandbox is worth. -/
noncomputable def Try.pinned : Pinned := { name := "ytlghkkfamhjodaa", sum := "e58293ae1006c602b3c27d024571acf299b05ad7e4bc23df8f8bc4b6560f1ebf", checked := Try.checked }
namespace Rows
def none {H : Type} : Left H := { results := [], args := [] }

/-- 'laws.FnP224ProjSelect': WHATEVER THE INPUT: true; the input reads as it did. -/
def fnP224ProjSelectSpec : ChangeSpec := { name := "fnP224ProjSelect", fn := fun _ => fun
  | [d1, d2, d3] => { results := [.lit (.bool true)], args := [d1, d2, d3] }
  | _ => none }
def fnP224ProjSelectRow : OpenClaim := { program := "ytlghkkfamhjodaa", sum := "e58293ae1006c602b3c27d024571acf299b05ad7e4bc23df8f8bc4b6560f1ebf", func := "loop.example/pub-g03240/laws.FnP224ProjSelect", spec := "fnP224ProjSelect", inPlace := ["math/bits.Sub64", "math/bits.Add64"], apart := false }
def FnP224ProjSelectSaid : Prop := fnP224ProjSelectRow.holds Try.pinned (OpenSpec.ofChange fnP224ProjSelectSpec)

/-- ITS FALSE NEIGHBOUR: 'it returns false'. Refute it at one input. -/
def fnP224ProjSelectWrong : ChangeSpec := { name := "fnP224ProjSelect", fn := fun _ => fun
  | [d1, d2, d3] => { results := [.lit (.bool false)], args := [d1, d2, d3] }
  | _ => none }
def FnP224ProjSelectWrongFalsely : Prop := fnP224ProjSelectRow.holds Try.pinned (OpenSpec.ofChange fnP224ProjSelectWrong)

/-- 'laws.FnP224ProjAdd': WHATEVER THE INPUT: true; the input reads as it did. -/
def fnP224ProjAddSpec : ChangeSpec := { name := "fnP224ProjAdd", fn := fun _ => fun
  | [d1, d2] => { results := [.lit (.bool true)], args := [d1, d2] }
  | _ => none }
def fnP224ProjAddRow : OpenClaim := { program := "ytlghkkfamhjodaa", sum := "e58293ae1006c602b3c27d024571acf299b05ad7e4bc23df8f8bc4b6560f1ebf", func := "loop.example/pub-g03240/laws.FnP224ProjAdd", spec := "fnP224ProjAdd", inPlace := ["math/bits.Sub64", "math/bits.Add64"], apart := false }
def FnP224ProjAddSaid : Prop := fnP224ProjAddRow.holds Try.pinned (OpenSpec.ofChange fnP224ProjAddSpec)

/-- ITS FALSE NEIGHBOUR: 'it returns false'. Refute it at one input. -/
def fnP224ProjAddWrong : ChangeSpec := { name := "fnP224ProjAdd", fn := fun _ => fun
  | [d1, d2] => { results := [.lit (.bool false)], args := [d1, d2] }
  | _ => none }
def FnP224ProjAddWrongFalsely : Prop := fnP224ProjAddRow.holds Try.pinned (OpenSpec.ofChange fnP224ProjAddWrong)

/-- 'laws.FnP224ProjInfinity': WHATEVER THE INPUT: true; the input reads as it did. -/
def fnP224ProjInfinitySpec : ChangeSpec := { name := "fnP224ProjInfinity", fn := fun _ => fun
  | [d] => { results := [.lit (.bool true)], args := [d] }
  | _ => none }
def fnP224ProjInfinityRow : OpenClaim := { program := "ytlghkkfamhjodaa", sum := "e58293ae1006c602b3c27d024571acf299b05ad7e4bc23df8f8bc4b6560f1ebf", func := "loop.example/pub-g03240/laws.FnP224ProjInfinity", spec := "fnP224ProjInfinity", inPlace := ["math/bits.Add64", "math/bits.Sub64"], apart := false }
def FnP224ProjInfinitySaid : Prop := fnP224ProjInfinityRow.holds Try.pinned (OpenSpec.ofChange fnP224ProjInfinitySpec)

/-- ITS FALSE NEIGHBOUR: 'it returns false'. Refute it at one input. -/
def fnP224ProjInfinityWrong : ChangeSpec := { name := "fnP224ProjInfinity", fn := fun _ => fun
  | [d] => { results := [.lit (.bool false)], args := [d] }
  | _ => none }
def FnP224ProjInfinityWrongFalsely : Prop := fnP224ProjInfinityRow.holds Try.pinned (OpenSpec.ofChange fnP224ProjInfinityWrong)

/- THE SECOND FORM. 'bulk': how many values and letters a reading holds, each counted each time it is reached (what is shared counts as often as it is met; a slice's spare places count too). A statement '..UptoSaid' is the law's where the arguments, and the package variables that the reading takes, are together of bulk at most 1048576: NARROWER than '..Said'. Prove '..Said' where nothing that the law and all that it calls make is longer than what came in: it says more and counts as full. Else prove '..UptoSaid'. A law counts once. -/
mutual
def uptoBulk {H : Type} : DataW H → Nat
  | .lit (.string bytes) => bytes.length + 1
  | .lit _ => 1
  | .nil => 1
  | .ptr d => uptoBulk d + 1
  | .slice elems spare => uptoBulkAll elems + uptoBulkAll spare + 1
  | .agg parts => uptoBulkAll parts + 1
  | .iface _ d => uptoBulk d + 1
  | .map entries => uptoBulkEntries entries + 1
  | .held _ => 1
def uptoBulkAll {H : Type} : List (DataW H) → Nat
  | [] => 0
  | d :: r => uptoBulk d + uptoBulkAll r
def uptoBulkEntries {H : Type} : List (Lit × DataW H) → Nat
  | [] => 0
  | x :: r => uptoBulkEntry x + uptoBulkEntries r
def uptoBulkEntry {H : Type} : Lit × DataW H → Nat
  | (.string bytes, d) => bytes.length + uptoBulk d + 1
  | (_, d) => uptoBulk d + 1
 end
def uptoSmall : (H : Type) → List (DataW H) → Bool := fun _ ds => decide (uptoBulkAll ds ≤ 1048576)
def OpenSpec.upto (s : _root_.Go.ChangeSpec) : _root_.Go.OpenSpec := { _root_.Go.OpenSpec.ofChange s with cond := some uptoSmall }

/-- 'laws.FnP224ProjSelect', WHERE WHAT IT READS IS OF BULK AT MOST 1048576: true; the input reads as it did. -/
def fnP224ProjSelectUptoRow : OpenClaim := { program := "ytlghkkfamhjodaa", sum := "e58293ae1006c602b3c27d024571acf299b05ad7e4bc23df8f8bc4b6560f1ebf", func := "loop.example/pub-g03240/laws.FnP224ProjSelect", spec := "fnP224ProjSelect", inPlace := ["math/bits.Sub64", "math/bits.Add64"], apart := false, narrowed := true }
def FnP224ProjSelectUptoSaid : Prop := fnP224ProjSelectUptoRow.holds Try.pinned (OpenSpec.upto fnP224ProjSelectSpec)

/-- 'laws.FnP224ProjAdd', WHERE WHAT IT READS IS OF BULK AT MOST 1048576: true; the input reads as it did. -/
def fnP224ProjAddUptoRow : OpenClaim := { program := "ytlghkkfamhjodaa", sum := "e58293ae1006c602b3c27d024571acf299b05ad7e4bc23df8f8bc4b6560f1ebf", func := "loop.example/pub-g03240/laws.FnP224ProjAdd", spec := "fnP224ProjAdd", inPlace := ["math/bits.Sub64", "math/bits.Add64"], apart := false, narrowed := true }
def FnP224ProjAddUptoSaid : Prop := fnP224ProjAddUptoRow.holds Try.pinned (OpenSpec.upto fnP224ProjAddSpec)

/-- 'laws.FnP224ProjInfinity', WHERE WHAT IT READS IS OF BULK AT MOST 1048576: true; the input reads as it did. -/
def fnP224ProjInfinityUptoRow : OpenClaim := { program := "ytlghkkfamhjodaa", sum := "e58293ae1006c602b3c27d024571acf299b05ad7e4bc23df8f8bc4b6560f1ebf", func := "loop.example/pub-g03240/laws.FnP224ProjInfinity", spec := "fnP224ProjInfinity", inPlace := ["math/bits.Add64", "math/bits.Sub64"], apart := false, narrowed := true }
def FnP224ProjInfinityUptoSaid : Prop := fnP224ProjInfinityUptoRow.holds Try.pinned (OpenSpec.upto fnP224ProjInfinitySpec)

end Rows
end Go.Proofs.Ytlghkkfamhjodaa
