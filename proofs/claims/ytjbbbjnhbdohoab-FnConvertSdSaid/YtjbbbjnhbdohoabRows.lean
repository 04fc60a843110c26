/-
  No cell of these rows narrows 'for every input' (looked for: loops, veiled, ifaces, maps, wideKeys, modest, calm, conditions, laid).
  DERIVED. THE GIVEN ROWS OF THIS SEAT. 6 by the template 'for every input the law returns true; each argument reads behind the call as it read before'; 0 by the template 'total and deterministic' (their statements: YtjbbbjnhbdohoabTotals.lean).
  GIVEN WITH THE SEED: the statements are not yours to turn. If you find one false, say at which input.
  Laid BY PROGRAM, IN A SANDBOX (cutbox-rows.mjs): the forced cells as the released guide's own fill.sh prints them over the translation 06b89a903dab0898… (all of the seat's roots in one cut). By AI agents, Wed Nov 11 2026. No macro, syntax, notation, axiom, sorry.
-/
import Derived.Test.YtjbbbjnhbdohoabChecked
import GoSem.Claim
import GoSem.ClaimJoined
import GoSem.ClaimMapViews
import Derived.JoinedTies
import Derived.KernelRfl
namespace Go.Proofs.Ytjbbbjnhbdohoab
/- THE CELL 'sum', in the pinned program and in every row, IS THE sha256 OF THE DUMP (.gsa) THAT YtjbbbjnhbdohoabProg.lean LOADS. Nothing in Lean hashes anything: it is a label: what it is worth is what the hold of that sum in a sandbox is worth. -/
noncomputable def Try.pinned : Pinned := { name := "ytjbbbjnhbdohoab", sum := "06b89a903dab0898edf285a71eff4723525b0441718e2e2be6b92010b528d029", checked := Try.checked }
namespace Rows
def none {H : Type} : Left H := { results := [], args := [] }

/-- 'laws.FnConvertSubw': WHATEVER THE INPUT: true; the input reads as it did. -/
def fnConvertSubwSpec : ChangeSpec := { name := "fnConvertSubw", fn := fun _ => fun
  | [d] => { results := [.lit (.bool true)], args := [d] }
  | _ => none }
def fnConvertSubwRow : OpenClaim := { program := "ytjbbbjnhbdohoab", sum := "06b89a903dab0898edf285a71eff4723525b0441718e2e2be6b92010b528d029", func := "loop.example/pub-g03336/laws.FnConvertSubw", spec := "fnConvertSubw", apart := false }
def FnConvertSubwSaid : Prop := fnConvertSubwRow.holds Try.pinned (OpenSpec.ofChange fnConvertSubwSpec)

/-- ITS FALSE NEIGHBOUR: 'it returns false'. Refute it at one input. -/
def fnConvertSubwWrong : ChangeSpec := { name := "fnConvertSubw", fn := fun _ => fun
  | [d] => { results := [.lit (.bool false)], args := [d] }
  | _ => none }
def FnConvertSubwWrongFalsely : Prop := fnConvertSubwRow.holds Try.pinned (OpenSpec.ofChange fnConvertSubwWrong)

/-- 'laws.FnConvertSwsp': WHATEVER THE INPUT: true; the input reads as it did. -/
def fnConvertSwspSpec : ChangeSpec := { name := "fnConvertSwsp", fn := fun _ => fun
  | [d] => { results := [.lit (.bool true)], args := [d] }
  | _ => none }
def fnConvertSwspRow : OpenClaim := { program := "ytjbbbjnhbdohoab", sum := "06b89a903dab0898edf285a71eff4723525b0441718e2e2be6b92010b528d029", func := "loop.example/pub-g03336/laws.FnConvertSwsp", spec := "fnConvertSwsp", apart := false }
def FnConvertSwspSaid : Prop := fnConvertSwspRow.holds Try.pinned (OpenSpec.ofChange fnConvertSwspSpec)

/-- ITS FALSE NEIGHBOUR: 'it returns false'. Refute it at one input. -/
def fnConvertSwspWrong : ChangeSpec := { name := "fnConvertSwsp", fn := fun _ => fun
  | [d] => { results := [.lit (.bool false)], args := [d] }
  | _ => none }
def FnConvertSwspWrongFalsely : Prop := fnConvertSwspRow.holds Try.pinned (OpenSpec.ofChange fnConvertSwspWrong)

/-- 'laws.FnConvertFld': WHATEVER THE INPUT: true; the input reads as it did. -/
def fnConvertFldSpec : ChangeSpec := { name := "fnConvertFld", fn := fun _ => fun
  | [d] => { results := [.lit (.bool true)], args := [d] }
  | _ => none }
def fnConvertFldRow : OpenClaim := { program := "ytjbbbjnhbdohoab", sum := "06b89a903dab0898edf285a71eff4723525b0441718e2e2be6b92010b528d029", func := "loop.example/pub-g03336/laws.FnConvertFld", spec := "fnConvertFld", apart := false }
def FnConvertFldSaid : Prop := fnConvertFldRow.holds Try.pinned (OpenSpec.ofChange fnConvertFldSpec)

/-- ITS FALSE NEIGHBOUR: 'it returns false'. Refute it at one input. -/
def fnConvertFldWrong : ChangeSpec := { name := "fnConvertFld", fn := fun _ => fun
  | [d] => { results := [.lit (.bool false)], args := [d] }
  | _ => none }
def FnConvertFldWrongFalsely : Prop := fnConvertFldRow.holds Try.pinned (OpenSpec.ofChange fnConvertFldWrong)

/-- 'laws.FnConvertFsd': WHATEVER THE INPUT: true; the input reads as it did. -/
def fnConvertFsdSpec : ChangeSpec := { name := "fnConvertFsd", fn := fun _ => fun
  | [d] => { results := [.lit (.bool true)], args := [d] }
  | _ => none }
def fnConvertFsdRow : OpenClaim := { program := "ytjbbbjnhbdohoab", sum := "06b89a903dab0898edf285a71eff4723525b0441718e2e2be6b92010b528d029", func := "loop.example/pub-g03336/laws.FnConvertFsd", spec := "fnConvertFsd", apart := false }
def FnConvertFsdSaid : Prop := fnConvertFsdRow.holds Try.pinned (OpenSpec.ofChange fnConvertFsdSpec)

/-- ITS FALSE NEIGHBOUR: 'it returns false'. Refute it at one input. -/
def fnConvertFsdWrong : ChangeSpec := { name := "fnConvertFsd", fn := fun _ => fun
  | [d] => { results := [.lit (.bool false)], args := [d] }
  | _ => none }
def FnConvertFsdWrongFalsely : Prop := fnConvertFsdRow.holds Try.pinned (OpenSpec.ofChange fnConvertFsdWrong)

/-- 'laws.FnConvertLw': WHATEVER THE INPUT: true; the input reads as it did. -/
def fnConvertLwSpec : ChangeSpec := { name := "fnConvertLw", fn := fun _ => fun
  | [d] => { results := [.lit (.bool true)], args := [d] }
  | _ => none }
def fnConvertLwRow : OpenClaim := { program := "ytjbbbjnhbdohoab", sum := "06b89a903dab0898edf285a71eff4723525b0441718e2e2be6b92010b528d029", func := "loop.example/pub-g03336/laws.FnConvertLw", spec := "fnConvertLw", apart := false }
def FnConvertLwSaid : Prop := fnConvertLwRow.holds Try.pinned (OpenSpec.ofChange fnConvertLwSpec)

/-- ITS FALSE NEIGHBOUR: 'it returns false'. Refute it at one input. -/
def fnConvertLwWrong : ChangeSpec := { name := "fnConvertLw", fn := fun _ => fun
  | [d] => { results := [.lit (.bool false)], args := [d] }
  | _ => none }
def FnConvertLwWrongFalsely : Prop := fnConvertLwRow.holds Try.pinned (OpenSpec.ofChange fnConvertLwWrong)

/-- 'laws.FnConvertSd': WHATEVER THE INPUT: true; the input reads as it did. -/
def fnConvertSdSpec : ChangeSpec := { name := "fnConvertSd", fn := fun _ => fun
  | [d] => { results := [.lit (.bool true)], args := [d] }
  | _ => none }
def fnConvertSdRow : OpenClaim := { program := "ytjbbbjnhbdohoab", sum := "06b89a903dab0898edf285a71eff4723525b0441718e2e2be6b92010b528d029", func := "loop.example/pub-g03336/laws.FnConvertSd", spec := "fnConvertSd", apart := false }
def FnConvertSdSaid : Prop := fnConvertSdRow.holds Try.pinned (OpenSpec.ofChange fnConvertSdSpec)

/-- ITS FALSE NEIGHBOUR: 'it returns false'. Refute it at one input. -/
def fnConvertSdWrong : ChangeSpec := { name := "fnConvertSd", fn := fun _ => fun
  | [d] => { results := [.lit (.bool false)], args := [d] }
  | _ => none }
def FnConvertSdWrongFalsely : Prop := fnConvertSdRow.holds Try.pinned (OpenSpec.ofChange fnConvertSdWrong)

/- THE SECOND FORM. 'bulk': how many values and letters a reading holds, each counted each time it is reached (what is shared counts as often as it is met; a slice's spare places count too). A statement '..UptoSaid' is the law's where the arguments, and the package variables that the reading takes, are together of bulk at most 1048576: NARROWER than '..Said'. Prove '..Said' where nothing that the law and all that it calls make is longer than what came in: it says more and counts as full. Else prove '..UptoSaid'. A law counts once. -/
mutual
def uptoBulk {H : Type} : DataW H → Nat
  | .lit (.string bytes) => bytes.length + 1
  | .lit _ => 1
  | .nil => 1
  | .ptr d => uptoBulk d + 1
  | .slice elems spare => uptoBulkAll elems + uptoBulkAll spare + 1
  | .agg parts => uptoBulkAll parts + 1
  | .iface _ d => uptoBulk d + 1
  | .map entries => uptoBulkEntries entries + 1
  | .held _ => 1
def uptoBulkAll {H : Type} : List (DataW H) → Nat
  | [] => 0
  | d :: r => uptoBulk d + uptoBulkAll r
def uptoBulkEntries {H : Type} : List (Lit × DataW H) → Nat
  | [] => 0
  | x :: r => uptoBulkEntry x + uptoBulkEntries r
def uptoBulkEntry {H : Type} : Lit × DataW H → Nat
  | (.string bytes, d) => bytes.length + uptoBulk d + 1
  | (_, d) => uptoBulk d + 1
 end
def uptoSmall : (H : Type) → List (DataW H) → Bool := fun _ ds => decide (uptoBulkAll ds ≤ 1048576)
def OpenSpec.upto (s : _root_.Go.ChangeSpec) : _root_.Go.OpenSpec := { _root_.Go.OpenSpec.ofChange s with cond := some uptoSmall }

/-- 'laws.FnConvertSubw', WHERE WHAT IT READS IS OF BULK AT MOST 1048576: true; the input reads as it did. -/
def fnConvertSubwUptoRow : OpenClaim := { program := "ytjbbbjnhbdohoab", sum := "06b89a903dab0898edf285a71eff4723525b0441718e2e2be6b92010b528d029", func := "loop.example/pub-g03336/laws.FnConvertSubw", spec := "fnConvertSubw", apart := false, narrowed := true }
def FnConvertSubwUptoSaid : Prop := fnConvertSubwUptoRow.holds Try.pinned (OpenSpec.upto fnConvertSubwSpec)

/-- 'laws.FnConvertSwsp', WHERE WHAT IT READS IS OF BULK AT MOST 1048576: true; the input reads as it did. -/
def fnConvertSwspUptoRow : OpenClaim := { program := "ytjbbbjnhbdohoab", sum := "06b89a903dab0898edf285a71eff4723525b0441718e2e2be6b92010b528d029", func := "loop.example/pub-g03336/laws.FnConvertSwsp", spec := "fnConvertSwsp", apart := false, narrowed := true }
def FnConvertSwspUptoSaid : Prop := fnConvertSwspUptoRow.holds Try.pinned (OpenSpec.upto fnConvertSwspSpec)

/-- 'laws.FnConvertFld', WHERE WHAT IT READS IS OF BULK AT MOST 1048576: true; the input reads as it did. -/
def fnConvertFldUptoRow : OpenClaim := { program := "ytjbbbjnhbdohoab", sum := "06b89a903dab0898edf285a71eff4723525b0441718e2e2be6b92010b528d029", func := "loop.example/pub-g03336/laws.FnConvertFld", spec := "fnConvertFld", apart := false, narrowed := true }
def FnConvertFldUptoSaid : Prop := fnConvertFldUptoRow.holds Try.pinned (OpenSpec.upto fnConvertFldSpec)

/-- 'laws.FnConvertFsd', WHERE WHAT IT READS IS OF BULK AT MOST 1048576: true; the input reads as it did. -/
def fnConvertFsdUptoRow : OpenClaim := { program := "ytjbbbjnhbdohoab", sum := "06b89a903dab0898edf285a71eff4723525b0441718e2e2be6b92010b528d029", func := "loop.example/pub-g03336/laws.FnConvertFsd", spec := "fnConvertFsd", apart := false, narrowed := true }
def FnConvertFsdUptoSaid : Prop := fnConvertFsdUptoRow.holds Try.pinned (OpenSpec.upto fnConvertFsdSpec)

/-- 'laws.FnConvertLw', WHERE WHAT IT READS IS OF BULK AT MOST 1048576: true; the input reads as it did. -/
def fnConvertLwUptoRow : OpenClaim := { program := "ytjbbbjnhbdohoab", sum := "06b89a903dab0898edf285a71eff4723525b0441718e2e2be6b92010b528d029", func := "loop.example/pub-g03336/laws.FnConvertLw", spec := "fnConvertLw", apart := false, narrowed := true }
def FnConvertLwUptoSaid : Prop := fnConvertLwUptoRow.holds Try.pinned (OpenSpec.upto fnConvertLwSpec)

/-- 'laws.FnConvertSd', WHERE WHAT IT READS IS OF BULK AT MOST 1048576: true; the input reads as it did. -/
def fnConvertSdUptoRow : OpenClaim := { program := "ytjbbbjnhbdohoab", sum := "06b89a903dab0898edf285a71eff4723525b0441718e2e2be6b92010b528d029", func := "loop.example/pub-g03336/laws.FnConvertSd", spec := "fnConvertSd", apart := false, narrowed := true }
def FnConvertSdUptoSaid : Prop := fnConvertSdUptoRow.holds Try.pinned (OpenSpec.upto fnConvertSdSpec)

end Rows
end Go.Proofs.Ytjbbbjnhbdohoab
