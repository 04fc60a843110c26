/-
  No cell of these rows narrows 'for every input' (looked for: loops, veiled, ifaces, maps, wideKeys, modest, calm, conditions, laid).
  DERIVED. THE GIVEN ROWS OF THIS SEAT. 12 by the template 'for every input the law returns true; each argument reads behind the call as it read before'; 0 by the template 'total and deterministic' (their statements: YtofgdpjhnlohoaaTotals.lean).
  GIVEN WITH THE SEED: the statements are not yours to turn. If you find one false, say at which input.
  Laid BY PROGRAM, IN A SANDBOX (cutbox-rows.mjs): the forced cells as the released guide's own fill.sh prints them over the translation 0fa1ffa2134823b6… (all of the seat's roots in one cut). By AI agents, Wed Nov 11 2026. No macro, syntax, notation, axiom, sorry.
-/
import Derived.Test.YtofgdpjhnlohoaaChecked
import GoSem.Claim
import GoSem.ClaimJoined
import GoSem.ClaimMapViews
import Derived.JoinedTies
import Derived.KernelRfl
namespace Go.Proofs.Ytofgdpjhnlohoaa
/- THE CELL 'sum', in the pinned program and in every row, IS THE sha256 OF THE DUMP (.gsa) THAT YtofgdpjhnlohoaaProg.lean LOADS. Nothing in Lean hashes anything: it is a label: what it is worth is what the hold of that sum in a sandbox is worth. -/
noncomputable def Try.pinned : Pinned := { name := "ytofgdpjhnlohoaa", sum := "0fa1ffa2134823b6d5ca1038186a551aa2a19bc3fa8b17ad7592ec5cb7d42f31", checked := Try.checked }
namespace Rows
def none {H : Type} : Left H := { results := [], args := [] }

/-- 'laws.FnArgBimm12': WHATEVER THE INPUT: true; the input reads as it did. -/
def fnArgBimm12Spec : ChangeSpec := { name := "fnArgBimm12", fn := fun _ => fun
  | [d] => { results := [.lit (.bool true)], args := [d] }
  | _ => none }
def fnArgBimm12Row : OpenClaim := { program := "ytofgdpjhnlohoaa", sum := "0fa1ffa2134823b6d5ca1038186a551aa2a19bc3fa8b17ad7592ec5cb7d42f31", func := "loop.example/pub-g03336/laws.FnArgBimm12", spec := "fnArgBimm12", apart := false }
def FnArgBimm12Said : Prop := fnArgBimm12Row.holds Try.pinned (OpenSpec.ofChange fnArgBimm12Spec)

/-- ITS FALSE NEIGHBOUR: 'it returns false'. Refute it at one input. -/
def fnArgBimm12Wrong : ChangeSpec := { name := "fnArgBimm12", fn := fun _ => fun
  | [d] => { results := [.lit (.bool false)], args := [d] }
  | _ => none }
def FnArgBimm12WrongFalsely : Prop := fnArgBimm12Row.holds Try.pinned (OpenSpec.ofChange fnArgBimm12Wrong)

/-- 'laws.FnArgCBimm9': WHATEVER THE INPUT: true; the input reads as it did. -/
def fnArgCBimm9Spec : ChangeSpec := { name := "fnArgCBimm9", fn := fun _ => fun
  | [d] => { results := [.lit (.bool true)], args := [d] }
  | _ => none }
def fnArgCBimm9Row : OpenClaim := { program := "ytofgdpjhnlohoaa", sum := "0fa1ffa2134823b6d5ca1038186a551aa2a19bc3fa8b17ad7592ec5cb7d42f31", func := "loop.example/pub-g03336/laws.FnArgCBimm9", spec := "fnArgCBimm9", apart := false }
def FnArgCBimm9Said : Prop := fnArgCBimm9Row.holds Try.pinned (OpenSpec.ofChange fnArgCBimm9Spec)

/-- ITS FALSE NEIGHBOUR: 'it returns false'. Refute it at one input. -/
def fnArgCBimm9Wrong : ChangeSpec := { name := "fnArgCBimm9", fn := fun _ => fun
  | [d] => { results := [.lit (.bool false)], args := [d] }
  | _ => none }
def FnArgCBimm9WrongFalsely : Prop := fnArgCBimm9Row.holds Try.pinned (OpenSpec.ofChange fnArgCBimm9Wrong)

/-- 'laws.FnArgCFs2': WHATEVER THE INPUT: true; the input reads as it did. -/
def fnArgCFs2Spec : ChangeSpec := { name := "fnArgCFs2", fn := fun _ => fun
  | [d] => { results := [.lit (.bool true)], args := [d] }
  | _ => none }
def fnArgCFs2Row : OpenClaim := { program := "ytofgdpjhnlohoaa", sum := "0fa1ffa2134823b6d5ca1038186a551aa2a19bc3fa8b17ad7592ec5cb7d42f31", func := "loop.example/pub-g03336/laws.FnArgCFs2", spec := "fnArgCFs2", apart := false }
def FnArgCFs2Said : Prop := fnArgCFs2Row.holds Try.pinned (OpenSpec.ofChange fnArgCFs2Spec)

/-- ITS FALSE NEIGHBOUR: 'it returns false'. Refute it at one input. -/
def fnArgCFs2Wrong : ChangeSpec := { name := "fnArgCFs2", fn := fun _ => fun
  | [d] => { results := [.lit (.bool false)], args := [d] }
  | _ => none }
def FnArgCFs2WrongFalsely : Prop := fnArgCFs2Row.holds Try.pinned (OpenSpec.ofChange fnArgCFs2Wrong)

/-- 'laws.FnArgCImm12': WHATEVER THE INPUT: true; the input reads as it did. -/
def fnArgCImm12Spec : ChangeSpec := { name := "fnArgCImm12", fn := fun _ => fun
  | [d] => { results := [.lit (.bool true)], args := [d] }
  | _ => none }
def fnArgCImm12Row : OpenClaim := { program := "ytofgdpjhnlohoaa", sum := "0fa1ffa2134823b6d5ca1038186a551aa2a19bc3fa8b17ad7592ec5cb7d42f31", func := "loop.example/pub-g03336/laws.FnArgCImm12", spec := "fnArgCImm12", apart := false }
def FnArgCImm12Said : Prop := fnArgCImm12Row.holds Try.pinned (OpenSpec.ofChange fnArgCImm12Spec)

/-- ITS FALSE NEIGHBOUR: 'it returns false'. Refute it at one input. -/
def fnArgCImm12Wrong : ChangeSpec := { name := "fnArgCImm12", fn := fun _ => fun
  | [d] => { results := [.lit (.bool false)], args := [d] }
  | _ => none }
def FnArgCImm12WrongFalsely : Prop := fnArgCImm12Row.holds Try.pinned (OpenSpec.ofChange fnArgCImm12Wrong)

/-- 'laws.FnArgCNzimm6': WHATEVER THE INPUT: true; the input reads as it did. -/
def fnArgCNzimm6Spec : ChangeSpec := { name := "fnArgCNzimm6", fn := fun _ => fun
  | [d] => { results := [.lit (.bool true)], args := [d] }
  | _ => none }
def fnArgCNzimm6Row : OpenClaim := { program := "ytofgdpjhnlohoaa", sum := "0fa1ffa2134823b6d5ca1038186a551aa2a19bc3fa8b17ad7592ec5cb7d42f31", func := "loop.example/pub-g03336/laws.FnArgCNzimm6", spec := "fnArgCNzimm6", apart := false }
def FnArgCNzimm6Said : Prop := fnArgCNzimm6Row.holds Try.pinned (OpenSpec.ofChange fnArgCNzimm6Spec)

/-- ITS FALSE NEIGHBOUR: 'it returns false'. Refute it at one input. -/
def fnArgCNzimm6Wrong : ChangeSpec := { name := "fnArgCNzimm6", fn := fun _ => fun
  | [d] => { results := [.lit (.bool false)], args := [d] }
  | _ => none }
def FnArgCNzimm6WrongFalsely : Prop := fnArgCNzimm6Row.holds Try.pinned (OpenSpec.ofChange fnArgCNzimm6Wrong)

/-- 'laws.FnArgCNzuimm10': WHATEVER THE INPUT: true; the input reads as it did. -/
def fnArgCNzuimm10Spec : ChangeSpec := { name := "fnArgCNzuimm10", fn := fun _ => fun
  | [d] => { results := [.lit (.bool true)], args := [d] }
  | _ => none }
def fnArgCNzuimm10Row : OpenClaim := { program := "ytofgdpjhnlohoaa", sum := "0fa1ffa2134823b6d5ca1038186a551aa2a19bc3fa8b17ad7592ec5cb7d42f31", func := "loop.example/pub-g03336/laws.FnArgCNzuimm10", spec := "fnArgCNzuimm10", apart := false }
def FnArgCNzuimm10Said : Prop := fnArgCNzuimm10Row.holds Try.pinned (OpenSpec.ofChange fnArgCNzuimm10Spec)

/-- ITS FALSE NEIGHBOUR: 'it returns false'. Refute it at one input. -/
def fnArgCNzuimm10Wrong : ChangeSpec := { name := "fnArgCNzuimm10", fn := fun _ => fun
  | [d] => { results := [.lit (.bool false)], args := [d] }
  | _ => none }
def FnArgCNzuimm10WrongFalsely : Prop := fnArgCNzuimm10Row.holds Try.pinned (OpenSpec.ofChange fnArgCNzuimm10Wrong)

/-- 'laws.FnArgCRs1N0': WHATEVER THE INPUT: true; the input reads as it did. -/
def fnArgCRs1N0Spec : ChangeSpec := { name := "fnArgCRs1N0", fn := fun _ => fun
  | [d] => { results := [.lit (.bool true)], args := [d] }
  | _ => none }
def fnArgCRs1N0Row : OpenClaim := { program := "ytofgdpjhnlohoaa", sum := "0fa1ffa2134823b6d5ca1038186a551aa2a19bc3fa8b17ad7592ec5cb7d42f31", func := "loop.example/pub-g03336/laws.FnArgCRs1N0", spec := "fnArgCRs1N0", apart := false }
def FnArgCRs1N0Said : Prop := fnArgCRs1N0Row.holds Try.pinned (OpenSpec.ofChange fnArgCRs1N0Spec)

/-- ITS FALSE NEIGHBOUR: 'it returns false'. Refute it at one input. -/
def fnArgCRs1N0Wrong : ChangeSpec := { name := "fnArgCRs1N0", fn := fun _ => fun
  | [d] => { results := [.lit (.bool false)], args := [d] }
  | _ => none }
def FnArgCRs1N0WrongFalsely : Prop := fnArgCRs1N0Row.holds Try.pinned (OpenSpec.ofChange fnArgCRs1N0Wrong)

/-- 'laws.FnArgCUimm7': WHATEVER THE INPUT: true; the input reads as it did. -/
def fnArgCUimm7Spec : ChangeSpec := { name := "fnArgCUimm7", fn := fun _ => fun
  | [d] => { results := [.lit (.bool true)], args := [d] }
  | _ => none }
def fnArgCUimm7Row : OpenClaim := { program := "ytofgdpjhnlohoaa", sum := "0fa1ffa2134823b6d5ca1038186a551aa2a19bc3fa8b17ad7592ec5cb7d42f31", func := "loop.example/pub-g03336/laws.FnArgCUimm7", spec := "fnArgCUimm7", apart := false }
def FnArgCUimm7Said : Prop := fnArgCUimm7Row.holds Try.pinned (OpenSpec.ofChange fnArgCUimm7Spec)

/-- ITS FALSE NEIGHBOUR: 'it returns false'. Refute it at one input. -/
def fnArgCUimm7Wrong : ChangeSpec := { name := "fnArgCUimm7", fn := fun _ => fun
  | [d] => { results := [.lit (.bool false)], args := [d] }
  | _ => none }
def FnArgCUimm7WrongFalsely : Prop := fnArgCUimm7Row.holds Try.pinned (OpenSpec.ofChange fnArgCUimm7Wrong)

/-- 'laws.FnArgCUimm8spS': WHATEVER THE INPUT: true; the input reads as it did. -/
def fnArgCUimm8spSSpec : ChangeSpec := { name := "fnArgCUimm8spS", fn := fun _ => fun
  | [d] => { results := [.lit (.bool true)], args := [d] }
  | _ => none }
def fnArgCUimm8spSRow : OpenClaim := { program := "ytofgdpjhnlohoaa", sum := "0fa1ffa2134823b6d5ca1038186a551aa2a19bc3fa8b17ad7592ec5cb7d42f31", func := "loop.example/pub-g03336/laws.FnArgCUimm8spS", spec := "fnArgCUimm8spS", apart := false }
def FnArgCUimm8spSSaid : Prop := fnArgCUimm8spSRow.holds Try.pinned (OpenSpec.ofChange fnArgCUimm8spSSpec)

/-- ITS FALSE NEIGHBOUR: 'it returns false'. Refute it at one input. -/
def fnArgCUimm8spSWrong : ChangeSpec := { name := "fnArgCUimm8spS", fn := fun _ => fun
  | [d] => { results := [.lit (.bool false)], args := [d] }
  | _ => none }
def FnArgCUimm8spSWrongFalsely : Prop := fnArgCUimm8spSRow.holds Try.pinned (OpenSpec.ofChange fnArgCUimm8spSWrong)

/-- 'laws.FnArgCUimm9spS': WHATEVER THE INPUT: true; the input reads as it did. -/
def fnArgCUimm9spSSpec : ChangeSpec := { name := "fnArgCUimm9spS", fn := fun _ => fun
  | [d] => { results := [.lit (.bool true)], args := [d] }
  | _ => none }
def fnArgCUimm9spSRow : OpenClaim := { program := "ytofgdpjhnlohoaa", sum := "0fa1ffa2134823b6d5ca1038186a551aa2a19bc3fa8b17ad7592ec5cb7d42f31", func := "loop.example/pub-g03336/laws.FnArgCUimm9spS", spec := "fnArgCUimm9spS", apart := false }
def FnArgCUimm9spSSaid : Prop := fnArgCUimm9spSRow.holds Try.pinned (OpenSpec.ofChange fnArgCUimm9spSSpec)

/-- ITS FALSE NEIGHBOUR: 'it returns false'. Refute it at one input. -/
def fnArgCUimm9spSWrong : ChangeSpec := { name := "fnArgCUimm9spS", fn := fun _ => fun
  | [d] => { results := [.lit (.bool false)], args := [d] }
  | _ => none }
def FnArgCUimm9spSWrongFalsely : Prop := fnArgCUimm9spSRow.holds Try.pinned (OpenSpec.ofChange fnArgCUimm9spSWrong)

/-- 'laws.FnArgCsr': WHATEVER THE INPUT: true; the input reads as it did. -/
def fnArgCsrSpec : ChangeSpec := { name := "fnArgCsr", fn := fun _ => fun
  | [d] => { results := [.lit (.bool true)], args := [d] }
  | _ => none }
def fnArgCsrRow : OpenClaim := { program := "ytofgdpjhnlohoaa", sum := "0fa1ffa2134823b6d5ca1038186a551aa2a19bc3fa8b17ad7592ec5cb7d42f31", func := "loop.example/pub-g03336/laws.FnArgCsr", spec := "fnArgCsr", apart := false }
def FnArgCsrSaid : Prop := fnArgCsrRow.holds Try.pinned (OpenSpec.ofChange fnArgCsrSpec)

/-- ITS FALSE NEIGHBOUR: 'it returns false'. Refute it at one input. -/
def fnArgCsrWrong : ChangeSpec := { name := "fnArgCsr", fn := fun _ => fun
  | [d] => { results := [.lit (.bool false)], args := [d] }
  | _ => none }
def FnArgCsrWrongFalsely : Prop := fnArgCsrRow.holds Try.pinned (OpenSpec.ofChange fnArgCsrWrong)

/-- 'laws.FnArgFd': WHATEVER THE INPUT: true; the input reads as it did. -/
def fnArgFdSpec : ChangeSpec := { name := "fnArgFd", fn := fun _ => fun
  | [d] => { results := [.lit (.bool true)], args := [d] }
  | _ => none }
def fnArgFdRow : OpenClaim := { program := "ytofgdpjhnlohoaa", sum := "0fa1ffa2134823b6d5ca1038186a551aa2a19bc3fa8b17ad7592ec5cb7d42f31", func := "loop.example/pub-g03336/laws.FnArgFd", spec := "fnArgFd", apart := false }
def FnArgFdSaid : Prop := fnArgFdRow.holds Try.pinned (OpenSpec.ofChange fnArgFdSpec)

/-- ITS FALSE NEIGHBOUR: 'it returns false'. Refute it at one input. -/
def fnArgFdWrong : ChangeSpec := { name := "fnArgFd", fn := fun _ => fun
  | [d] => { results := [.lit (.bool false)], args := [d] }
  | _ => none }
def FnArgFdWrongFalsely : Prop := fnArgFdRow.holds Try.pinned (OpenSpec.ofChange fnArgFdWrong)

/- THE SECOND FORM. 'bulk': how many values and letters a reading holds, each counted each time it is reached (what is shared counts as often as it is met; a slice's spare places count too). A statement '..UptoSaid' is the law's where the arguments, and the package variables that the reading takes, are together of bulk at most 1048576: NARROWER than '..Said'. Prove '..Said' where nothing that the law and all that it calls make is longer than what came in: it says more and counts as full. Else prove '..UptoSaid'. A law counts once. -/
mutual
def uptoBulk {H : Type} : DataW H → Nat
  | .lit (.string bytes) => bytes.length + 1
  | .lit _ => 1
  | .nil => 1
  | .ptr d => uptoBulk d + 1
  | .slice elems spare => uptoBulkAll elems + uptoBulkAll spare + 1
  | .agg parts => uptoBulkAll parts + 1
  | .iface _ d => uptoBulk d + 1
  | .map entries => uptoBulkEntries entries + 1
  | .held _ => 1
def uptoBulkAll {H : Type} : List (DataW H) → Nat
  | [] => 0
  | d :: r => uptoBulk d + uptoBulkAll r
def uptoBulkEntries {H : Type} : List (Lit × DataW H) → Nat
  | [] => 0
  | x :: r => uptoBulkEntry x + uptoBulkEntries r
def uptoBulkEntry {H : Type} : Lit × DataW H → Nat
  | (.string bytes, d) => bytes.length + uptoBulk d + 1
  | (_, d) => uptoBulk d + 1
 end
def uptoSmall : (H : Type) → List (DataW H) → Bool := fun _ ds => decide (uptoBulkAll ds ≤ 1048576)
def OpenSpec.upto (s : _root_.Go.ChangeSpec) : _root_.Go.OpenSpec := { _root_.Go.OpenSpec.ofChange s with cond := some uptoSmall }

/-- 'laws.FnArgBimm12', WHERE WHAT IT READS IS OF BULK AT MOST 1048576: true; the input reads as it did. -/
def fnArgBimm12UptoRow : OpenClaim := { program := "ytofgdpjhnlohoaa", sum := "0fa1ffa2134823b6d5ca1038186a551aa2a19bc3fa8b17ad7592ec5cb7d42f31", func := "loop.example/pub-g03336/laws.FnArgBimm12", spec := "fnArgBimm12", apart := false, narrowed := true }
def FnArgBimm12UptoSaid : Prop := fnArgBimm12UptoRow.holds Try.pinned (OpenSpec.upto fnArgBimm12Spec)

/-- 'laws.FnArgCBimm9', WHERE WHAT IT READS IS OF BULK AT MOST 1048576: true; the input reads as it did. -/
def fnArgCBimm9UptoRow : OpenClaim := { program := "ytofgdpjhnlohoaa", sum := "0fa1ffa2134823b6d5ca1038186a551aa2a19bc3fa8b17ad7592ec5cb7d42f31", func := "loop.example/pub-g03336/laws.FnArgCBimm9", spec := "fnArgCBimm9", apart := false, narrowed := true }
def FnArgCBimm9UptoSaid : Prop := fnArgCBimm9UptoRow.holds Try.pinned (OpenSpec.upto fnArgCBimm9Spec)

/-- 'laws.FnArgCFs2', WHERE WHAT IT READS IS OF BULK AT MOST 1048576: true; the input reads as it did. -/
def fnArgCFs2UptoRow : OpenClaim := { program := "ytofgdpjhnlohoaa", sum := "0fa1ffa2134823b6d5ca1038186a551aa2a19bc3fa8b17ad7592ec5cb7d42f31", func := "loop.example/pub-g03336/laws.FnArgCFs2", spec := "fnArgCFs2", apart := false, narrowed := true }
def FnArgCFs2UptoSaid : Prop := fnArgCFs2UptoRow.holds Try.pinned (OpenSpec.upto fnArgCFs2Spec)

/-- 'laws.FnArgCImm12', WHERE WHAT IT READS IS OF BULK AT MOST 1048576: true; the input reads as it did. -/
def fnArgCImm12UptoRow : OpenClaim := { program := "ytofgdpjhnlohoaa", sum := "0fa1ffa2134823b6d5ca1038186a551aa2a19bc3fa8b17ad7592ec5cb7d42f31", func := "loop.example/pub-g03336/laws.FnArgCImm12", spec := "fnArgCImm12", apart := false, narrowed := true }
def FnArgCImm12UptoSaid : Prop := fnArgCImm12UptoRow.holds Try.pinned (OpenSpec.upto fnArgCImm12Spec)

/-- 'laws.FnArgCNzimm6', WHERE WHAT IT READS IS OF BULK AT MOST 1048576: true; the input reads as it did. -/
def fnArgCNzimm6UptoRow : OpenClaim := { program := "ytofgdpjhnlohoaa", sum := "0fa1ffa2134823b6d5ca1038186a551aa2a19bc3fa8b17ad7592ec5cb7d42f31", func := "loop.example/pub-g03336/laws.FnArgCNzimm6", spec := "fnArgCNzimm6", apart := false, narrowed := true }
def FnArgCNzimm6UptoSaid : Prop := fnArgCNzimm6UptoRow.holds Try.pinned (OpenSpec.upto fnArgCNzimm6Spec)

/-- 'laws.FnArgCNzuimm10', WHERE WHAT IT READS IS OF BULK AT MOST 1048576: true; the input reads as it did. -/
def fnArgCNzuimm10UptoRow : OpenClaim := { program := "ytofgdpjhnlohoaa", sum := "0fa1ffa2134823b6d5ca1038186a551aa2a19bc3fa8b17ad7592ec5cb7d42f31", func := "loop.example/pub-g03336/laws.FnArgCNzuimm10", spec := "fnArgCNzuimm10", apart := false, narrowed := true }
def FnArgCNzuimm10UptoSaid : Prop := fnArgCNzuimm10UptoRow.holds Try.pinned (OpenSpec.upto fnArgCNzuimm10Spec)

/-- 'laws.FnArgCRs1N0', WHERE WHAT IT READS IS OF BULK AT MOST 1048576: true; the input reads as it did. -/
def fnArgCRs1N0UptoRow : OpenClaim := { program := "ytofgdpjhnlohoaa", sum := "0fa1ffa2134823b6d5ca1038186a551aa2a19bc3fa8b17ad7592ec5cb7d42f31", func := "loop.example/pub-g03336/laws.FnArgCRs1N0", spec := "fnArgCRs1N0", apart := false, narrowed := true }
def FnArgCRs1N0UptoSaid : Prop := fnArgCRs1N0UptoRow.holds Try.pinned (OpenSpec.upto fnArgCRs1N0Spec)

/-- 'laws.FnArgCUimm7', WHERE WHAT IT READS IS OF BULK AT MOST 1048576: true; the input reads as it did. -/
def fnArgCUimm7UptoRow : OpenClaim := { program := "ytofgdpjhnlohoaa", sum := "0fa1ffa2134823b6d5ca1038186a551aa2a19bc3fa8b17ad7592ec5cb7d42f31", func := "loop.example/pub-g03336/laws.FnArgCUimm7", spec := "fnArgCUimm7", apart := false, narrowed := true }
def FnArgCUimm7UptoSaid : Prop := fnArgCUimm7UptoRow.holds Try.pinned (OpenSpec.upto fnArgCUimm7Spec)

/-- 'laws.FnArgCUimm8spS', WHERE WHAT IT READS IS OF BULK AT MOST 1048576: true; the input reads as it did. -/
def fnArgCUimm8spSUptoRow : OpenClaim := { program := "ytofgdpjhnlohoaa", sum := "0fa1ffa2134823b6d5ca1038186a551aa2a19bc3fa8b17ad7592ec5cb7d42f31", func := "loop.example/pub-g03336/laws.FnArgCUimm8spS", spec := "fnArgCUimm8spS", apart := false, narrowed := true }
def FnArgCUimm8spSUptoSaid : Prop := fnArgCUimm8spSUptoRow.holds Try.pinned (OpenSpec.upto fnArgCUimm8spSSpec)

/-- 'laws.FnArgCUimm9spS', WHERE WHAT IT READS IS OF BULK AT MOST 1048576: true; the input reads as it did. -/
def fnArgCUimm9spSUptoRow : OpenClaim := { program := "ytofgdpjhnlohoaa", sum := "0fa1ffa2134823b6d5ca1038186a551aa2a19bc3fa8b17ad7592ec5cb7d42f31", func := "loop.example/pub-g03336/laws.FnArgCUimm9spS", spec := "fnArgCUimm9spS", apart := false, narrowed := true }
def FnArgCUimm9spSUptoSaid : Prop := fnArgCUimm9spSUptoRow.holds Try.pinned (OpenSpec.upto fnArgCUimm9spSSpec)

/-- 'laws.FnArgCsr', WHERE WHAT IT READS IS OF BULK AT MOST 1048576: true; the input reads as it did. -/
def fnArgCsrUptoRow : OpenClaim := { program := "ytofgdpjhnlohoaa", sum := "0fa1ffa2134823b6d5ca1038186a551aa2a19bc3fa8b17ad7592ec5cb7d42f31", func := "loop.example/pub-g03336/laws.FnArgCsr", spec := "fnArgCsr", apart := false, narrowed := true }
def FnArgCsrUptoSaid : Prop := fnArgCsrUptoRow.holds Try.pinned (OpenSpec.upto fnArgCsrSpec)

/-- 'laws.FnArgFd', WHERE WHAT IT READS IS OF BULK AT MOST 1048576: true; the input reads as it did. -/
def fnArgFdUptoRow : OpenClaim := { program := "ytofgdpjhnlohoaa", sum := "0fa1ffa2134823b6d5ca1038186a551aa2a19bc3fa8b17ad7592ec5cb7d42f31", func := "loop.example/pub-g03336/laws.FnArgFd", spec := "fnArgFd", apart := false, narrowed := true }
def FnArgFdUptoSaid : Prop := fnArgFdUptoRow.holds Try.pinned (OpenSpec.upto fnArgFdSpec)

end Rows
end Go.Proofs.Ytofgdpjhnlohoaa
