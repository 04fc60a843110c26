/-
  No cell of these rows narrows 'for every input' (looked for: loops, veiled, ifaces, maps, wideKeys, modest, calm, conditions, laid).
  DERIVED. THE GIVEN ROWS OF THIS SEAT. 12 by the template 'for every input the law returns true; each argument reads behind the call as it read before'; 0 by the template 'total and deterministic' (their statements: YtofgdpjhnlohoabTotals.lean).
  GIVEN WITH THE SEED: the statements are not yours to turn. If you find one false, say at which input.
  Laid BY PROGRAM, IN A SANDBOX (cutbox-rows.mjs): the forced cells as the released guide's own fill.sh prints them over the translation ea3c1347231308ad… (all of the seat's roots in one cut). By AI agents, Wed Nov 11 2026. No macro, syntax, notation, axiom, sorry.
-/
import Derived.Test.YtofgdpjhnlohoabChecked
import GoSem.Claim
import GoSem.ClaimJoined
import GoSem.ClaimMapViews
import Derived.JoinedTies
import Derived.KernelRfl
namespace Go.Proofs.Ytofgdpjhnlohoab
/- THE CELL 'sum', in the pinned program and in every row, IS THE sha256 OF THE DUMP (.gsa) THAT YtofgdpjhnlohoabProg.lean LOADS. Nothing in Lean hashes anything: it is a label: what it is worth is what the hold of that sum in a sandbox is worth. -/
noncomputable def Try.pinned : Pinned := { name := "ytofgdpjhnlohoab", sum := "ea3c1347231308ad763394bada009b84870377141c59c4c2c982075658df03a7", checked := Try.checked }
namespace Rows
def none {H : Type} : Left H := { results := [], args := [] }

/-- 'laws.FnArgFdP': WHATEVER THE INPUT: true; the input reads as it did. -/
def fnArgFdPSpec : ChangeSpec := { name := "fnArgFdP", fn := fun _ => fun
  | [d] => { results := [.lit (.bool true)], args := [d] }
  | _ => none }
def fnArgFdPRow : OpenClaim := { program := "ytofgdpjhnlohoab", sum := "ea3c1347231308ad763394bada009b84870377141c59c4c2c982075658df03a7", func := "loop.example/pub-g03336/laws.FnArgFdP", spec := "fnArgFdP", apart := false }
def FnArgFdPSaid : Prop := fnArgFdPRow.holds Try.pinned (OpenSpec.ofChange fnArgFdPSpec)

/-- ITS FALSE NEIGHBOUR: 'it returns false'. Refute it at one input. -/
def fnArgFdPWrong : ChangeSpec := { name := "fnArgFdP", fn := fun _ => fun
  | [d] => { results := [.lit (.bool false)], args := [d] }
  | _ => none }
def FnArgFdPWrongFalsely : Prop := fnArgFdPRow.holds Try.pinned (OpenSpec.ofChange fnArgFdPWrong)

/-- 'laws.FnArgFs2': WHATEVER THE INPUT: true; the input reads as it did. -/
def fnArgFs2Spec : ChangeSpec := { name := "fnArgFs2", fn := fun _ => fun
  | [d] => { results := [.lit (.bool true)], args := [d] }
  | _ => none }
def fnArgFs2Row : OpenClaim := { program := "ytofgdpjhnlohoab", sum := "ea3c1347231308ad763394bada009b84870377141c59c4c2c982075658df03a7", func := "loop.example/pub-g03336/laws.FnArgFs2", spec := "fnArgFs2", apart := false }
def FnArgFs2Said : Prop := fnArgFs2Row.holds Try.pinned (OpenSpec.ofChange fnArgFs2Spec)

/-- ITS FALSE NEIGHBOUR: 'it returns false'. Refute it at one input. -/
def fnArgFs2Wrong : ChangeSpec := { name := "fnArgFs2", fn := fun _ => fun
  | [d] => { results := [.lit (.bool false)], args := [d] }
  | _ => none }
def FnArgFs2WrongFalsely : Prop := fnArgFs2Row.holds Try.pinned (OpenSpec.ofChange fnArgFs2Wrong)

/-- 'laws.FnArgJimm20': WHATEVER THE INPUT: true; the input reads as it did. -/
def fnArgJimm20Spec : ChangeSpec := { name := "fnArgJimm20", fn := fun _ => fun
  | [d] => { results := [.lit (.bool true)], args := [d] }
  | _ => none }
def fnArgJimm20Row : OpenClaim := { program := "ytofgdpjhnlohoab", sum := "ea3c1347231308ad763394bada009b84870377141c59c4c2c982075658df03a7", func := "loop.example/pub-g03336/laws.FnArgJimm20", spec := "fnArgJimm20", apart := false }
def FnArgJimm20Said : Prop := fnArgJimm20Row.holds Try.pinned (OpenSpec.ofChange fnArgJimm20Spec)

/-- ITS FALSE NEIGHBOUR: 'it returns false'. Refute it at one input. -/
def fnArgJimm20Wrong : ChangeSpec := { name := "fnArgJimm20", fn := fun _ => fun
  | [d] => { results := [.lit (.bool false)], args := [d] }
  | _ => none }
def FnArgJimm20WrongFalsely : Prop := fnArgJimm20Row.holds Try.pinned (OpenSpec.ofChange fnArgJimm20Wrong)

/-- 'laws.FnArgPred': WHATEVER THE INPUT: true; the input reads as it did. -/
def fnArgPredSpec : ChangeSpec := { name := "fnArgPred", fn := fun _ => fun
  | [d] => { results := [.lit (.bool true)], args := [d] }
  | _ => none }
def fnArgPredRow : OpenClaim := { program := "ytofgdpjhnlohoab", sum := "ea3c1347231308ad763394bada009b84870377141c59c4c2c982075658df03a7", func := "loop.example/pub-g03336/laws.FnArgPred", spec := "fnArgPred", apart := false }
def FnArgPredSaid : Prop := fnArgPredRow.holds Try.pinned (OpenSpec.ofChange fnArgPredSpec)

/-- ITS FALSE NEIGHBOUR: 'it returns false'. Refute it at one input. -/
def fnArgPredWrong : ChangeSpec := { name := "fnArgPred", fn := fun _ => fun
  | [d] => { results := [.lit (.bool false)], args := [d] }
  | _ => none }
def FnArgPredWrongFalsely : Prop := fnArgPredRow.holds Try.pinned (OpenSpec.ofChange fnArgPredWrong)

/-- 'laws.FnArgRd': WHATEVER THE INPUT: true; the input reads as it did. -/
def fnArgRdSpec : ChangeSpec := { name := "fnArgRd", fn := fun _ => fun
  | [d] => { results := [.lit (.bool true)], args := [d] }
  | _ => none }
def fnArgRdRow : OpenClaim := { program := "ytofgdpjhnlohoab", sum := "ea3c1347231308ad763394bada009b84870377141c59c4c2c982075658df03a7", func := "loop.example/pub-g03336/laws.FnArgRd", spec := "fnArgRd", apart := false }
def FnArgRdSaid : Prop := fnArgRdRow.holds Try.pinned (OpenSpec.ofChange fnArgRdSpec)

/-- ITS FALSE NEIGHBOUR: 'it returns false'. Refute it at one input. -/
def fnArgRdWrong : ChangeSpec := { name := "fnArgRd", fn := fun _ => fun
  | [d] => { results := [.lit (.bool false)], args := [d] }
  | _ => none }
def FnArgRdWrongFalsely : Prop := fnArgRdRow.holds Try.pinned (OpenSpec.ofChange fnArgRdWrong)

/-- 'laws.FnArgRdN2': WHATEVER THE INPUT: true; the input reads as it did. -/
def fnArgRdN2Spec : ChangeSpec := { name := "fnArgRdN2", fn := fun _ => fun
  | [d] => { results := [.lit (.bool true)], args := [d] }
  | _ => none }
def fnArgRdN2Row : OpenClaim := { program := "ytofgdpjhnlohoab", sum := "ea3c1347231308ad763394bada009b84870377141c59c4c2c982075658df03a7", func := "loop.example/pub-g03336/laws.FnArgRdN2", spec := "fnArgRdN2", apart := false }
def FnArgRdN2Said : Prop := fnArgRdN2Row.holds Try.pinned (OpenSpec.ofChange fnArgRdN2Spec)

/-- ITS FALSE NEIGHBOUR: 'it returns false'. Refute it at one input. -/
def fnArgRdN2Wrong : ChangeSpec := { name := "fnArgRdN2", fn := fun _ => fun
  | [d] => { results := [.lit (.bool false)], args := [d] }
  | _ => none }
def FnArgRdN2WrongFalsely : Prop := fnArgRdN2Row.holds Try.pinned (OpenSpec.ofChange fnArgRdN2Wrong)

/-- 'laws.FnArgRdRs1P': WHATEVER THE INPUT: true; the input reads as it did. -/
def fnArgRdRs1PSpec : ChangeSpec := { name := "fnArgRdRs1P", fn := fun _ => fun
  | [d] => { results := [.lit (.bool true)], args := [d] }
  | _ => none }
def fnArgRdRs1PRow : OpenClaim := { program := "ytofgdpjhnlohoab", sum := "ea3c1347231308ad763394bada009b84870377141c59c4c2c982075658df03a7", func := "loop.example/pub-g03336/laws.FnArgRdRs1P", spec := "fnArgRdRs1P", apart := false }
def FnArgRdRs1PSaid : Prop := fnArgRdRs1PRow.holds Try.pinned (OpenSpec.ofChange fnArgRdRs1PSpec)

/-- ITS FALSE NEIGHBOUR: 'it returns false'. Refute it at one input. -/
def fnArgRdRs1PWrong : ChangeSpec := { name := "fnArgRdRs1P", fn := fun _ => fun
  | [d] => { results := [.lit (.bool false)], args := [d] }
  | _ => none }
def FnArgRdRs1PWrongFalsely : Prop := fnArgRdRs1PRow.holds Try.pinned (OpenSpec.ofChange fnArgRdRs1PWrong)

/-- 'laws.FnArgRs1Mem': WHATEVER THE INPUT: true; the input reads as it did. -/
def fnArgRs1MemSpec : ChangeSpec := { name := "fnArgRs1Mem", fn := fun _ => fun
  | [d] => { results := [.lit (.bool true)], args := [d] }
  | _ => none }
def fnArgRs1MemRow : OpenClaim := { program := "ytofgdpjhnlohoab", sum := "ea3c1347231308ad763394bada009b84870377141c59c4c2c982075658df03a7", func := "loop.example/pub-g03336/laws.FnArgRs1Mem", spec := "fnArgRs1Mem", apart := false }
def FnArgRs1MemSaid : Prop := fnArgRs1MemRow.holds Try.pinned (OpenSpec.ofChange fnArgRs1MemSpec)

/-- ITS FALSE NEIGHBOUR: 'it returns false'. Refute it at one input. -/
def fnArgRs1MemWrong : ChangeSpec := { name := "fnArgRs1Mem", fn := fun _ => fun
  | [d] => { results := [.lit (.bool false)], args := [d] }
  | _ => none }
def FnArgRs1MemWrongFalsely : Prop := fnArgRs1MemRow.holds Try.pinned (OpenSpec.ofChange fnArgRs1MemWrong)

/-- 'laws.FnArgRs1N0': WHATEVER THE INPUT: true; the input reads as it did. -/
def fnArgRs1N0Spec : ChangeSpec := { name := "fnArgRs1N0", fn := fun _ => fun
  | [d] => { results := [.lit (.bool true)], args := [d] }
  | _ => none }
def fnArgRs1N0Row : OpenClaim := { program := "ytofgdpjhnlohoab", sum := "ea3c1347231308ad763394bada009b84870377141c59c4c2c982075658df03a7", func := "loop.example/pub-g03336/laws.FnArgRs1N0", spec := "fnArgRs1N0", apart := false }
def FnArgRs1N0Said : Prop := fnArgRs1N0Row.holds Try.pinned (OpenSpec.ofChange fnArgRs1N0Spec)

/-- ITS FALSE NEIGHBOUR: 'it returns false'. Refute it at one input. -/
def fnArgRs1N0Wrong : ChangeSpec := { name := "fnArgRs1N0", fn := fun _ => fun
  | [d] => { results := [.lit (.bool false)], args := [d] }
  | _ => none }
def FnArgRs1N0WrongFalsely : Prop := fnArgRs1N0Row.holds Try.pinned (OpenSpec.ofChange fnArgRs1N0Wrong)

/-- 'laws.FnArgRs2': WHATEVER THE INPUT: true; the input reads as it did. -/
def fnArgRs2Spec : ChangeSpec := { name := "fnArgRs2", fn := fun _ => fun
  | [d] => { results := [.lit (.bool true)], args := [d] }
  | _ => none }
def fnArgRs2Row : OpenClaim := { program := "ytofgdpjhnlohoab", sum := "ea3c1347231308ad763394bada009b84870377141c59c4c2c982075658df03a7", func := "loop.example/pub-g03336/laws.FnArgRs2", spec := "fnArgRs2", apart := false }
def FnArgRs2Said : Prop := fnArgRs2Row.holds Try.pinned (OpenSpec.ofChange fnArgRs2Spec)

/-- ITS FALSE NEIGHBOUR: 'it returns false'. Refute it at one input. -/
def fnArgRs2Wrong : ChangeSpec := { name := "fnArgRs2", fn := fun _ => fun
  | [d] => { results := [.lit (.bool false)], args := [d] }
  | _ => none }
def FnArgRs2WrongFalsely : Prop := fnArgRs2Row.holds Try.pinned (OpenSpec.ofChange fnArgRs2Wrong)

/-- 'laws.FnArgRs2P': WHATEVER THE INPUT: true; the input reads as it did. -/
def fnArgRs2PSpec : ChangeSpec := { name := "fnArgRs2P", fn := fun _ => fun
  | [d] => { results := [.lit (.bool true)], args := [d] }
  | _ => none }
def fnArgRs2PRow : OpenClaim := { program := "ytofgdpjhnlohoab", sum := "ea3c1347231308ad763394bada009b84870377141c59c4c2c982075658df03a7", func := "loop.example/pub-g03336/laws.FnArgRs2P", spec := "fnArgRs2P", apart := false }
def FnArgRs2PSaid : Prop := fnArgRs2PRow.holds Try.pinned (OpenSpec.ofChange fnArgRs2PSpec)

/-- ITS FALSE NEIGHBOUR: 'it returns false'. Refute it at one input. -/
def fnArgRs2PWrong : ChangeSpec := { name := "fnArgRs2P", fn := fun _ => fun
  | [d] => { results := [.lit (.bool false)], args := [d] }
  | _ => none }
def FnArgRs2PWrongFalsely : Prop := fnArgRs2PRow.holds Try.pinned (OpenSpec.ofChange fnArgRs2PWrong)

/-- 'laws.FnArgShamt6': WHATEVER THE INPUT: true; the input reads as it did. -/
def fnArgShamt6Spec : ChangeSpec := { name := "fnArgShamt6", fn := fun _ => fun
  | [d] => { results := [.lit (.bool true)], args := [d] }
  | _ => none }
def fnArgShamt6Row : OpenClaim := { program := "ytofgdpjhnlohoab", sum := "ea3c1347231308ad763394bada009b84870377141c59c4c2c982075658df03a7", func := "loop.example/pub-g03336/laws.FnArgShamt6", spec := "fnArgShamt6", apart := false }
def FnArgShamt6Said : Prop := fnArgShamt6Row.holds Try.pinned (OpenSpec.ofChange fnArgShamt6Spec)

/-- ITS FALSE NEIGHBOUR: 'it returns false'. Refute it at one input. -/
def fnArgShamt6Wrong : ChangeSpec := { name := "fnArgShamt6", fn := fun _ => fun
  | [d] => { results := [.lit (.bool false)], args := [d] }
  | _ => none }
def FnArgShamt6WrongFalsely : Prop := fnArgShamt6Row.holds Try.pinned (OpenSpec.ofChange fnArgShamt6Wrong)

/- THE SECOND FORM. 'bulk': how many values and letters a reading holds, each counted each time it is reached (what is shared counts as often as it is met; a slice's spare places count too). A statement '..UptoSaid' is the law's where the arguments, and the package variables that the reading takes, are together of bulk at most 1048576: NARROWER than '..Said'. Prove '..Said' where nothing that the law and all that it calls make is longer than what came in: it says more and counts as full. Else prove '..UptoSaid'. A law counts once. -/
mutual
def uptoBulk {H : Type} : DataW H → Nat
  | .lit (.string bytes) => bytes.length + 1
  | .lit _ => 1
  | .nil => 1
  | .ptr d => uptoBulk d + 1
  | .slice elems spare => uptoBulkAll elems + uptoBulkAll spare + 1
  | .agg parts => uptoBulkAll parts + 1
  | .iface _ d => uptoBulk d + 1
  | .map entries => uptoBulkEntries entries + 1
  | .held _ => 1
def uptoBulkAll {H : Type} : List (DataW H) → Nat
  | [] => 0
  | d :: r => uptoBulk d + uptoBulkAll r
def uptoBulkEntries {H : Type} : List (Lit × DataW H) → Nat
  | [] => 0
  | x :: r => uptoBulkEntry x + uptoBulkEntries r
def uptoBulkEntry {H : Type} : Lit × DataW H → Nat
  | (.string bytes, d) => bytes.length + uptoBulk d + 1
  | (_, d) => uptoBulk d + 1
 end
def uptoSmall : (H : Type) → List (DataW H) → Bool := fun _ ds => decide (uptoBulkAll ds ≤ 1048576)
def OpenSpec.upto (s : _root_.Go.ChangeSpec) : _root_.Go.OpenSpec := { _root_.Go.OpenSpec.ofChange s with cond := some uptoSmall }

/-- 'laws.FnArgFdP', WHERE WHAT IT READS IS OF BULK AT MOST 1048576: true; the input reads as it did. -/
def fnArgFdPUptoRow : OpenClaim := { program := "ytofgdpjhnlohoab", sum := "ea3c1347231308ad763394bada009b84870377141c59c4c2c982075658df03a7", func := "loop.example/pub-g03336/laws.FnArgFdP", spec := "fnArgFdP", apart := false, narrowed := true }
def FnArgFdPUptoSaid : Prop := fnArgFdPUptoRow.holds Try.pinned (OpenSpec.upto fnArgFdPSpec)

/-- 'laws.FnArgFs2', WHERE WHAT IT READS IS OF BULK AT MOST 1048576: true; the input reads as it did. -/
def fnArgFs2UptoRow : OpenClaim := { program := "ytofgdpjhnlohoab", sum := "ea3c1347231308ad763394bada009b84870377141c59c4c2c982075658df03a7", func := "loop.example/pub-g03336/laws.FnArgFs2", spec := "fnArgFs2", apart := false, narrowed := true }
def FnArgFs2UptoSaid : Prop := fnArgFs2UptoRow.holds Try.pinned (OpenSpec.upto fnArgFs2Spec)

/-- 'laws.FnArgJimm20', WHERE WHAT IT READS IS OF BULK AT MOST 1048576: true; the input reads as it did. -/
def fnArgJimm20UptoRow : OpenClaim := { program := "ytofgdpjhnlohoab", sum := "ea3c1347231308ad763394bada009b84870377141c59c4c2c982075658df03a7", func := "loop.example/pub-g03336/laws.FnArgJimm20", spec := "fnArgJimm20", apart := false, narrowed := true }
def FnArgJimm20UptoSaid : Prop := fnArgJimm20UptoRow.holds Try.pinned (OpenSpec.upto fnArgJimm20Spec)

/-- 'laws.FnArgPred', WHERE WHAT IT READS IS OF BULK AT MOST 1048576: true; the input reads as it did. -/
def fnArgPredUptoRow : OpenClaim := { program := "ytofgdpjhnlohoab", sum := "ea3c1347231308ad763394bada009b84870377141c59c4c2c982075658df03a7", func := "loop.example/pub-g03336/laws.FnArgPred", spec := "fnArgPred", apart := false, narrowed := true }
def FnArgPredUptoSaid : Prop := fnArgPredUptoRow.holds Try.pinned (OpenSpec.upto fnArgPredSpec)

/-- 'laws.FnArgRd', WHERE WHAT IT READS IS OF BULK AT MOST 1048576: true; the input reads as it did. -/
def fnArgRdUptoRow : OpenClaim := { program := "ytofgdpjhnlohoab", sum := "ea3c1347231308ad763394bada009b84870377141c59c4c2c982075658df03a7", func := "loop.example/pub-g03336/laws.FnArgRd", spec := "fnArgRd", apart := false, narrowed := true }
def FnArgRdUptoSaid : Prop := fnArgRdUptoRow.holds Try.pinned (OpenSpec.upto fnArgRdSpec)

/-- 'laws.FnArgRdN2', WHERE WHAT IT READS IS OF BULK AT MOST 1048576: true; the input reads as it did. -/
def fnArgRdN2UptoRow : OpenClaim := { program := "ytofgdpjhnlohoab", sum := "ea3c1347231308ad763394bada009b84870377141c59c4c2c982075658df03a7", func := "loop.example/pub-g03336/laws.FnArgRdN2", spec := "fnArgRdN2", apart := false, narrowed := true }
def FnArgRdN2UptoSaid : Prop := fnArgRdN2UptoRow.holds Try.pinned (OpenSpec.upto fnArgRdN2Spec)

/-- 'laws.FnArgRdRs1P', WHERE WHAT IT READS IS OF BULK AT MOST 1048576: true; the input reads as it did. -/
def fnArgRdRs1PUptoRow : OpenClaim := { program := "ytofgdpjhnlohoab", sum := "ea3c1347231308ad763394bada009b84870377141c59c4c2c982075658df03a7", func := "loop.example/pub-g03336/laws.FnArgRdRs1P", spec := "fnArgRdRs1P", apart := false, narrowed := true }
def FnArgRdRs1PUptoSaid : Prop := fnArgRdRs1PUptoRow.holds Try.pinned (OpenSpec.upto fnArgRdRs1PSpec)

/-- 'laws.FnArgRs1Mem', WHERE WHAT IT READS IS OF BULK AT MOST 1048576: true; the input reads as it did. -/
def fnArgRs1MemUptoRow : OpenClaim := { program := "ytofgdpjhnlohoab", sum := "ea3c1347231308ad763394bada009b84870377141c59c4c2c982075658df03a7", func := "loop.example/pub-g03336/laws.FnArgRs1Mem", spec := "fnArgRs1Mem", apart := false, narrowed := true }
def FnArgRs1MemUptoSaid : Prop := fnArgRs1MemUptoRow.holds Try.pinned (OpenSpec.upto fnArgRs1MemSpec)

/-- 'laws.FnArgRs1N0', WHERE WHAT IT READS IS OF BULK AT MOST 1048576: true; the input reads as it did. -/
def fnArgRs1N0UptoRow : OpenClaim := { program := "ytofgdpjhnlohoab", sum := "ea3c1347231308ad763394bada009b84870377141c59c4c2c982075658df03a7", func := "loop.example/pub-g03336/laws.FnArgRs1N0", spec := "fnArgRs1N0", apart := false, narrowed := true }
def FnArgRs1N0UptoSaid : Prop := fnArgRs1N0UptoRow.holds Try.pinned (OpenSpec.upto fnArgRs1N0Spec)

/-- 'laws.FnArgRs2', WHERE WHAT IT READS IS OF BULK AT MOST 1048576: true; the input reads as it did. -/
def fnArgRs2UptoRow : OpenClaim := { program := "ytofgdpjhnlohoab", sum := "ea3c1347231308ad763394bada009b84870377141c59c4c2c982075658df03a7", func := "loop.example/pub-g03336/laws.FnArgRs2", spec := "fnArgRs2", apart := false, narrowed := true }
def FnArgRs2UptoSaid : Prop := fnArgRs2UptoRow.holds Try.pinned (OpenSpec.upto fnArgRs2Spec)

/-- 'laws.FnArgRs2P', WHERE WHAT IT READS IS OF BULK AT MOST 1048576: true; the input reads as it did. -/
def fnArgRs2PUptoRow : OpenClaim := { program := "ytofgdpjhnlohoab", sum := "ea3c1347231308ad763394bada009b84870377141c59c4c2c982075658df03a7", func := "loop.example/pub-g03336/laws.FnArgRs2P", spec := "fnArgRs2P", apart := false, narrowed := true }
def FnArgRs2PUptoSaid : Prop := fnArgRs2PUptoRow.holds Try.pinned (OpenSpec.upto fnArgRs2PSpec)

/-- 'laws.FnArgShamt6', WHERE WHAT IT READS IS OF BULK AT MOST 1048576: true; the input reads as it did. -/
def fnArgShamt6UptoRow : OpenClaim := { program := "ytofgdpjhnlohoab", sum := "ea3c1347231308ad763394bada009b84870377141c59c4c2c982075658df03a7", func := "loop.example/pub-g03336/laws.FnArgShamt6", spec := "fnArgShamt6", apart := false, narrowed := true }
def FnArgShamt6UptoSaid : Prop := fnArgShamt6UptoRow.holds Try.pinned (OpenSpec.upto fnArgShamt6Spec)

end Rows
end Go.Proofs.Ytofgdpjhnlohoab
