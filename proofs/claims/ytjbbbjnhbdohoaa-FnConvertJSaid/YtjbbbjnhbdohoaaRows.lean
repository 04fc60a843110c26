/-
  No cell of these rows narrows 'for every input' (looked for: loops, veiled, ifaces, maps, wideKeys, modest, calm, conditions, laid).
  DERIVED. THE GIVEN ROWS OF THIS SEAT. 12 by the template 'for every input the law returns true; each argument reads behind the call as it read before'; 0 by the template 'total and deterministic' (their statements: YtjbbbjnhbdohoaaTotals.lean).
  GIVEN WITH THE SEED: the statements are not yours to turn. If you find one false, say at which input.
  Laid BY PROGRAM, IN A SANDBOX (cutbox-rows.mjs): the forced cells as the released guide's own fill.sh prints them over the translation f628b8e3f1834d2b… (all of the seat's roots in one cut). By AI agents, Wed Nov 11 2026. No macro, syntax, notation, axiom, sorry.
-/
import Derived.Test.YtjbbbjnhbdohoaaChecked
import GoSem.Claim
import GoSem.ClaimJoined
import GoSem.ClaimMapViews
import Derived.JoinedTies
import Derived.KernelRfl
namespace Go.Proofs.Ytjbbbjnhbdohoaa
/- THE CELL 'sum', in the pinned program and in every row, IS THE sha256 OF THE DUMP (.gsa) THAT YtjbbbjnhbdohoaaProg.lean LOADS. Nothing in Lean hashes anything: it is a label: what it is worth is what the hold of that sum in a sandbox is worth. -/
noncomputable def Try.pinned : Pinned := { name := "ytjbbbjnhbdohoaa", sum := "f628b8e3f1834d2beb7993a9eca76432fc1eca822cc9bafb0b4e8ed798bac614", checked := Try.checked }
namespace Rows
def none {H : Type} : Left H := { results := [], args := [] }

/-- 'laws.FnConvertNop': WHATEVER THE INPUT: true; the input reads as it did. -/
def fnConvertNopSpec : ChangeSpec := { name := "fnConvertNop", fn := fun _ => fun
  | [d] => { results := [.lit (.bool true)], args := [d] }
  | _ => none }
def fnConvertNopRow : OpenClaim := { program := "ytjbbbjnhbdohoaa", sum := "f628b8e3f1834d2beb7993a9eca76432fc1eca822cc9bafb0b4e8ed798bac614", func := "loop.example/pub-g03336/laws.FnConvertNop", spec := "fnConvertNop", apart := false }
def FnConvertNopSaid : Prop := fnConvertNopRow.holds Try.pinned (OpenSpec.ofChange fnConvertNopSpec)

/-- ITS FALSE NEIGHBOUR: 'it returns false'. Refute it at one input. -/
def fnConvertNopWrong : ChangeSpec := { name := "fnConvertNop", fn := fun _ => fun
  | [d] => { results := [.lit (.bool false)], args := [d] }
  | _ => none }
def FnConvertNopWrongFalsely : Prop := fnConvertNopRow.holds Try.pinned (OpenSpec.ofChange fnConvertNopWrong)

/-- 'laws.FnConvertJ': WHATEVER THE INPUT: true; the input reads as it did. -/
def fnConvertJSpec : ChangeSpec := { name := "fnConvertJ", fn := fun _ => fun
  | [d] => { results := [.lit (.bool true)], args := [d] }
  | _ => none }
def fnConvertJRow : OpenClaim := { program := "ytjbbbjnhbdohoaa", sum := "f628b8e3f1834d2beb7993a9eca76432fc1eca822cc9bafb0b4e8ed798bac614", func := "loop.example/pub-g03336/laws.FnConvertJ", spec := "fnConvertJ", apart := false }
def FnConvertJSaid : Prop := fnConvertJRow.holds Try.pinned (OpenSpec.ofChange fnConvertJSpec)

/-- ITS FALSE NEIGHBOUR: 'it returns false'. Refute it at one input. -/
def fnConvertJWrong : ChangeSpec := { name := "fnConvertJ", fn := fun _ => fun
  | [d] => { results := [.lit (.bool false)], args := [d] }
  | _ => none }
def FnConvertJWrongFalsely : Prop := fnConvertJRow.holds Try.pinned (OpenSpec.ofChange fnConvertJWrong)

/-- 'laws.FnConvertJr': WHATEVER THE INPUT: true; the input reads as it did. -/
def fnConvertJrSpec : ChangeSpec := { name := "fnConvertJr", fn := fun _ => fun
  | [d] => { results := [.lit (.bool true)], args := [d] }
  | _ => none }
def fnConvertJrRow : OpenClaim := { program := "ytjbbbjnhbdohoaa", sum := "f628b8e3f1834d2beb7993a9eca76432fc1eca822cc9bafb0b4e8ed798bac614", func := "loop.example/pub-g03336/laws.FnConvertJr", spec := "fnConvertJr", apart := false }
def FnConvertJrSaid : Prop := fnConvertJrRow.holds Try.pinned (OpenSpec.ofChange fnConvertJrSpec)

/-- ITS FALSE NEIGHBOUR: 'it returns false'. Refute it at one input. -/
def fnConvertJrWrong : ChangeSpec := { name := "fnConvertJr", fn := fun _ => fun
  | [d] => { results := [.lit (.bool false)], args := [d] }
  | _ => none }
def FnConvertJrWrongFalsely : Prop := fnConvertJrRow.holds Try.pinned (OpenSpec.ofChange fnConvertJrWrong)

/-- 'laws.FnConvertAddi': WHATEVER THE INPUT: true; the input reads as it did. -/
def fnConvertAddiSpec : ChangeSpec := { name := "fnConvertAddi", fn := fun _ => fun
  | [d] => { results := [.lit (.bool true)], args := [d] }
  | _ => none }
def fnConvertAddiRow : OpenClaim := { program := "ytjbbbjnhbdohoaa", sum := "f628b8e3f1834d2beb7993a9eca76432fc1eca822cc9bafb0b4e8ed798bac614", func := "loop.example/pub-g03336/laws.FnConvertAddi", spec := "fnConvertAddi", apart := false }
def FnConvertAddiSaid : Prop := fnConvertAddiRow.holds Try.pinned (OpenSpec.ofChange fnConvertAddiSpec)

/-- ITS FALSE NEIGHBOUR: 'it returns false'. Refute it at one input. -/
def fnConvertAddiWrong : ChangeSpec := { name := "fnConvertAddi", fn := fun _ => fun
  | [d] => { results := [.lit (.bool false)], args := [d] }
  | _ => none }
def FnConvertAddiWrongFalsely : Prop := fnConvertAddiRow.holds Try.pinned (OpenSpec.ofChange fnConvertAddiWrong)

/-- 'laws.FnConvertAddi4spn': WHATEVER THE INPUT: true; the input reads as it did. -/
def fnConvertAddi4spnSpec : ChangeSpec := { name := "fnConvertAddi4spn", fn := fun _ => fun
  | [d] => { results := [.lit (.bool true)], args := [d] }
  | _ => none }
def fnConvertAddi4spnRow : OpenClaim := { program := "ytjbbbjnhbdohoaa", sum := "f628b8e3f1834d2beb7993a9eca76432fc1eca822cc9bafb0b4e8ed798bac614", func := "loop.example/pub-g03336/laws.FnConvertAddi4spn", spec := "fnConvertAddi4spn", apart := false }
def FnConvertAddi4spnSaid : Prop := fnConvertAddi4spnRow.holds Try.pinned (OpenSpec.ofChange fnConvertAddi4spnSpec)

/-- ITS FALSE NEIGHBOUR: 'it returns false'. Refute it at one input. -/
def fnConvertAddi4spnWrong : ChangeSpec := { name := "fnConvertAddi4spn", fn := fun _ => fun
  | [d] => { results := [.lit (.bool false)], args := [d] }
  | _ => none }
def FnConvertAddi4spnWrongFalsely : Prop := fnConvertAddi4spnRow.holds Try.pinned (OpenSpec.ofChange fnConvertAddi4spnWrong)

/-- 'laws.FnConvertAddw': WHATEVER THE INPUT: true; the input reads as it did. -/
def fnConvertAddwSpec : ChangeSpec := { name := "fnConvertAddw", fn := fun _ => fun
  | [d] => { results := [.lit (.bool true)], args := [d] }
  | _ => none }
def fnConvertAddwRow : OpenClaim := { program := "ytjbbbjnhbdohoaa", sum := "f628b8e3f1834d2beb7993a9eca76432fc1eca822cc9bafb0b4e8ed798bac614", func := "loop.example/pub-g03336/laws.FnConvertAddw", spec := "fnConvertAddw", apart := false }
def FnConvertAddwSaid : Prop := fnConvertAddwRow.holds Try.pinned (OpenSpec.ofChange fnConvertAddwSpec)

/-- ITS FALSE NEIGHBOUR: 'it returns false'. Refute it at one input. -/
def fnConvertAddwWrong : ChangeSpec := { name := "fnConvertAddw", fn := fun _ => fun
  | [d] => { results := [.lit (.bool false)], args := [d] }
  | _ => none }
def FnConvertAddwWrongFalsely : Prop := fnConvertAddwRow.holds Try.pinned (OpenSpec.ofChange fnConvertAddwWrong)

/-- 'laws.FnConvertAndi': WHATEVER THE INPUT: true; the input reads as it did. -/
def fnConvertAndiSpec : ChangeSpec := { name := "fnConvertAndi", fn := fun _ => fun
  | [d] => { results := [.lit (.bool true)], args := [d] }
  | _ => none }
def fnConvertAndiRow : OpenClaim := { program := "ytjbbbjnhbdohoaa", sum := "f628b8e3f1834d2beb7993a9eca76432fc1eca822cc9bafb0b4e8ed798bac614", func := "loop.example/pub-g03336/laws.FnConvertAndi", spec := "fnConvertAndi", apart := false }
def FnConvertAndiSaid : Prop := fnConvertAndiRow.holds Try.pinned (OpenSpec.ofChange fnConvertAndiSpec)

/-- ITS FALSE NEIGHBOUR: 'it returns false'. Refute it at one input. -/
def fnConvertAndiWrong : ChangeSpec := { name := "fnConvertAndi", fn := fun _ => fun
  | [d] => { results := [.lit (.bool false)], args := [d] }
  | _ => none }
def FnConvertAndiWrongFalsely : Prop := fnConvertAndiRow.holds Try.pinned (OpenSpec.ofChange fnConvertAndiWrong)

/-- 'laws.FnConvertBnez': WHATEVER THE INPUT: true; the input reads as it did. -/
def fnConvertBnezSpec : ChangeSpec := { name := "fnConvertBnez", fn := fun _ => fun
  | [d] => { results := [.lit (.bool true)], args := [d] }
  | _ => none }
def fnConvertBnezRow : OpenClaim := { program := "ytjbbbjnhbdohoaa", sum := "f628b8e3f1834d2beb7993a9eca76432fc1eca822cc9bafb0b4e8ed798bac614", func := "loop.example/pub-g03336/laws.FnConvertBnez", spec := "fnConvertBnez", apart := false }
def FnConvertBnezSaid : Prop := fnConvertBnezRow.holds Try.pinned (OpenSpec.ofChange fnConvertBnezSpec)

/-- ITS FALSE NEIGHBOUR: 'it returns false'. Refute it at one input. -/
def fnConvertBnezWrong : ChangeSpec := { name := "fnConvertBnez", fn := fun _ => fun
  | [d] => { results := [.lit (.bool false)], args := [d] }
  | _ => none }
def FnConvertBnezWrongFalsely : Prop := fnConvertBnezRow.holds Try.pinned (OpenSpec.ofChange fnConvertBnezWrong)

/-- 'laws.FnConvertLdsp': WHATEVER THE INPUT: true; the input reads as it did. -/
def fnConvertLdspSpec : ChangeSpec := { name := "fnConvertLdsp", fn := fun _ => fun
  | [d] => { results := [.lit (.bool true)], args := [d] }
  | _ => none }
def fnConvertLdspRow : OpenClaim := { program := "ytjbbbjnhbdohoaa", sum := "f628b8e3f1834d2beb7993a9eca76432fc1eca822cc9bafb0b4e8ed798bac614", func := "loop.example/pub-g03336/laws.FnConvertLdsp", spec := "fnConvertLdsp", apart := false }
def FnConvertLdspSaid : Prop := fnConvertLdspRow.holds Try.pinned (OpenSpec.ofChange fnConvertLdspSpec)

/-- ITS FALSE NEIGHBOUR: 'it returns false'. Refute it at one input. -/
def fnConvertLdspWrong : ChangeSpec := { name := "fnConvertLdsp", fn := fun _ => fun
  | [d] => { results := [.lit (.bool false)], args := [d] }
  | _ => none }
def FnConvertLdspWrongFalsely : Prop := fnConvertLdspRow.holds Try.pinned (OpenSpec.ofChange fnConvertLdspWrong)

/-- 'laws.FnConvertMv': WHATEVER THE INPUT: true; the input reads as it did. -/
def fnConvertMvSpec : ChangeSpec := { name := "fnConvertMv", fn := fun _ => fun
  | [d] => { results := [.lit (.bool true)], args := [d] }
  | _ => none }
def fnConvertMvRow : OpenClaim := { program := "ytjbbbjnhbdohoaa", sum := "f628b8e3f1834d2beb7993a9eca76432fc1eca822cc9bafb0b4e8ed798bac614", func := "loop.example/pub-g03336/laws.FnConvertMv", spec := "fnConvertMv", apart := false }
def FnConvertMvSaid : Prop := fnConvertMvRow.holds Try.pinned (OpenSpec.ofChange fnConvertMvSpec)

/-- ITS FALSE NEIGHBOUR: 'it returns false'. Refute it at one input. -/
def fnConvertMvWrong : ChangeSpec := { name := "fnConvertMv", fn := fun _ => fun
  | [d] => { results := [.lit (.bool false)], args := [d] }
  | _ => none }
def FnConvertMvWrongFalsely : Prop := fnConvertMvRow.holds Try.pinned (OpenSpec.ofChange fnConvertMvWrong)

/-- 'laws.FnConvertSlli': WHATEVER THE INPUT: true; the input reads as it did. -/
def fnConvertSlliSpec : ChangeSpec := { name := "fnConvertSlli", fn := fun _ => fun
  | [d] => { results := [.lit (.bool true)], args := [d] }
  | _ => none }
def fnConvertSlliRow : OpenClaim := { program := "ytjbbbjnhbdohoaa", sum := "f628b8e3f1834d2beb7993a9eca76432fc1eca822cc9bafb0b4e8ed798bac614", func := "loop.example/pub-g03336/laws.FnConvertSlli", spec := "fnConvertSlli", apart := false }
def FnConvertSlliSaid : Prop := fnConvertSlliRow.holds Try.pinned (OpenSpec.ofChange fnConvertSlliSpec)

/-- ITS FALSE NEIGHBOUR: 'it returns false'. Refute it at one input. -/
def fnConvertSlliWrong : ChangeSpec := { name := "fnConvertSlli", fn := fun _ => fun
  | [d] => { results := [.lit (.bool false)], args := [d] }
  | _ => none }
def FnConvertSlliWrongFalsely : Prop := fnConvertSlliRow.holds Try.pinned (OpenSpec.ofChange fnConvertSlliWrong)

/-- 'laws.FnConvertSrli': WHATEVER THE INPUT: true; the input reads as it did. -/
def fnConvertSrliSpec : ChangeSpec := { name := "fnConvertSrli", fn := fun _ => fun
  | [d] => { results := [.lit (.bool true)], args := [d] }
  | _ => none }
def fnConvertSrliRow : OpenClaim := { program := "ytjbbbjnhbdohoaa", sum := "f628b8e3f1834d2beb7993a9eca76432fc1eca822cc9bafb0b4e8ed798bac614", func := "loop.example/pub-g03336/laws.FnConvertSrli", spec := "fnConvertSrli", apart := false }
def FnConvertSrliSaid : Prop := fnConvertSrliRow.holds Try.pinned (OpenSpec.ofChange fnConvertSrliSpec)

/-- ITS FALSE NEIGHBOUR: 'it returns false'. Refute it at one input. -/
def fnConvertSrliWrong : ChangeSpec := { name := "fnConvertSrli", fn := fun _ => fun
  | [d] => { results := [.lit (.bool false)], args := [d] }
  | _ => none }
def FnConvertSrliWrongFalsely : Prop := fnConvertSrliRow.holds Try.pinned (OpenSpec.ofChange fnConvertSrliWrong)

/- THE SECOND FORM. 'bulk': how many values and letters a reading holds, each counted each time it is reached (what is shared counts as often as it is met; a slice's spare places count too). A statement '..UptoSaid' is the law's where the arguments, and the package variables that the reading takes, are together of bulk at most 1048576: NARROWER than '..Said'. Prove '..Said' where nothing that the law and all that it calls make is longer than what came in: it says more and counts as full. Else prove '..UptoSaid'. A law counts once. -/
mutual
def uptoBulk {H : Type} : DataW H → Nat
  | .lit (.string bytes) => bytes.length + 1
  | .lit _ => 1
  | .nil => 1
  | .ptr d => uptoBulk d + 1
  | .slice elems spare => uptoBulkAll elems + uptoBulkAll spare + 1
  | .agg parts => uptoBulkAll parts + 1
  | .iface _ d => uptoBulk d + 1
  | .map entries => uptoBulkEntries entries + 1
  | .held _ => 1
def uptoBulkAll {H : Type} : List (DataW H) → Nat
  | [] => 0
  | d :: r => uptoBulk d + uptoBulkAll r
def uptoBulkEntries {H : Type} : List (Lit × DataW H) → Nat
  | [] => 0
  | x :: r => uptoBulkEntry x + uptoBulkEntries r
def uptoBulkEntry {H : Type} : Lit × DataW H → Nat
  | (.string bytes, d) => bytes.length + uptoBulk d + 1
  | (_, d) => uptoBulk d + 1
 end
def uptoSmall : (H : Type) → List (DataW H) → Bool := fun _ ds => decide (uptoBulkAll ds ≤ 1048576)
def OpenSpec.upto (s : _root_.Go.ChangeSpec) : _root_.Go.OpenSpec := { _root_.Go.OpenSpec.ofChange s with cond := some uptoSmall }

/-- 'laws.FnConvertNop', WHERE WHAT IT READS IS OF BULK AT MOST 1048576: true; the input reads as it did. -/
def fnConvertNopUptoRow : OpenClaim := { program := "ytjbbbjnhbdohoaa", sum := "f628b8e3f1834d2beb7993a9eca76432fc1eca822cc9bafb0b4e8ed798bac614", func := "loop.example/pub-g03336/laws.FnConvertNop", spec := "fnConvertNop", apart := false, narrowed := true }
def FnConvertNopUptoSaid : Prop := fnConvertNopUptoRow.holds Try.pinned (OpenSpec.upto fnConvertNopSpec)

/-- 'laws.FnConvertJ', WHERE WHAT IT READS IS OF BULK AT MOST 1048576: true; the input reads as it did. -/
def fnConvertJUptoRow : OpenClaim := { program := "ytjbbbjnhbdohoaa", sum := "f628b8e3f1834d2beb7993a9eca76432fc1eca822cc9bafb0b4e8ed798bac614", func := "loop.example/pub-g03336/laws.FnConvertJ", spec := "fnConvertJ", apart := false, narrowed := true }
def FnConvertJUptoSaid : Prop := fnConvertJUptoRow.holds Try.pinned (OpenSpec.upto fnConvertJSpec)

/-- 'laws.FnConvertJr', WHERE WHAT IT READS IS OF BULK AT MOST 1048576: true; the input reads as it did. -/
def fnConvertJrUptoRow : OpenClaim := { program := "ytjbbbjnhbdohoaa", sum := "f628b8e3f1834d2beb7993a9eca76432fc1eca822cc9bafb0b4e8ed798bac614", func := "loop.example/pub-g03336/laws.FnConvertJr", spec := "fnConvertJr", apart := false, narrowed := true }
def FnConvertJrUptoSaid : Prop := fnConvertJrUptoRow.holds Try.pinned (OpenSpec.upto fnConvertJrSpec)

/-- 'laws.FnConvertAddi', WHERE WHAT IT READS IS OF BULK AT MOST 1048576: true; the input reads as it did. -/
def fnConvertAddiUptoRow : OpenClaim := { program := "ytjbbbjnhbdohoaa", sum := "f628b8e3f1834d2beb7993a9eca76432fc1eca822cc9bafb0b4e8ed798bac614", func := "loop.example/pub-g03336/laws.FnConvertAddi", spec := "fnConvertAddi", apart := false, narrowed := true }
def FnConvertAddiUptoSaid : Prop := fnConvertAddiUptoRow.holds Try.pinned (OpenSpec.upto fnConvertAddiSpec)

/-- 'laws.FnConvertAddi4spn', WHERE WHAT IT READS IS OF BULK AT MOST 1048576: true; the input reads as it did. -/
def fnConvertAddi4spnUptoRow : OpenClaim := { program := "ytjbbbjnhbdohoaa", sum := "f628b8e3f1834d2beb7993a9eca76432fc1eca822cc9bafb0b4e8ed798bac614", func := "loop.example/pub-g03336/laws.FnConvertAddi4spn", spec := "fnConvertAddi4spn", apart := false, narrowed := true }
def FnConvertAddi4spnUptoSaid : Prop := fnConvertAddi4spnUptoRow.holds Try.pinned (OpenSpec.upto fnConvertAddi4spnSpec)

/-- 'laws.FnConvertAddw', WHERE WHAT IT READS IS OF BULK AT MOST 1048576: true; the input reads as it did. -/
def fnConvertAddwUptoRow : OpenClaim := { program := "ytjbbbjnhbdohoaa", sum := "f628b8e3f1834d2beb7993a9eca76432fc1eca822cc9bafb0b4e8ed798bac614", func := "loop.example/pub-g03336/laws.FnConvertAddw", spec := "fnConvertAddw", apart := false, narrowed := true }
def FnConvertAddwUptoSaid : Prop := fnConvertAddwUptoRow.holds Try.pinned (OpenSpec.upto fnConvertAddwSpec)

/-- 'laws.FnConvertAndi', WHERE WHAT IT READS IS OF BULK AT MOST 1048576: true; the input reads as it did. -/
def fnConvertAndiUptoRow : OpenClaim := { program := "ytjbbbjnhbdohoaa", sum := "f628b8e3f1834d2beb7993a9eca76432fc1eca822cc9bafb0b4e8ed798bac614", func := "loop.example/pub-g03336/laws.FnConvertAndi", spec := "fnConvertAndi", apart := false, narrowed := true }
def FnConvertAndiUptoSaid : Prop := fnConvertAndiUptoRow.holds Try.pinned (OpenSpec.upto fnConvertAndiSpec)

/-- 'laws.FnConvertBnez', WHERE WHAT IT READS IS OF BULK AT MOST 1048576: true; the input reads as it did. -/
def fnConvertBnezUptoRow : OpenClaim := { program := "ytjbbbjnhbdohoaa", sum := "f628b8e3f1834d2beb7993a9eca76432fc1eca822cc9bafb0b4e8ed798bac614", func := "loop.example/pub-g03336/laws.FnConvertBnez", spec := "fnConvertBnez", apart := false, narrowed := true }
def FnConvertBnezUptoSaid : Prop := fnConvertBnezUptoRow.holds Try.pinned (OpenSpec.upto fnConvertBnezSpec)

/-- 'laws.FnConvertLdsp', WHERE WHAT IT READS IS OF BULK AT MOST 1048576: true; the input reads as it did. -/
def fnConvertLdspUptoRow : OpenClaim := { program := "ytjbbbjnhbdohoaa", sum := "f628b8e3f1834d2beb7993a9eca76432fc1eca822cc9bafb0b4e8ed798bac614", func := "loop.example/pub-g03336/laws.FnConvertLdsp", spec := "fnConvertLdsp", apart := false, narrowed := true }
def FnConvertLdspUptoSaid : Prop := fnConvertLdspUptoRow.holds Try.pinned (OpenSpec.upto fnConvertLdspSpec)

/-- 'laws.FnConvertMv', WHERE WHAT IT READS IS OF BULK AT MOST 1048576: true; the input reads as it did. -/
def fnConvertMvUptoRow : OpenClaim := { program := "ytjbbbjnhbdohoaa", sum := "f628b8e3f1834d2beb7993a9eca76432fc1eca822cc9bafb0b4e8ed798bac614", func := "loop.example/pub-g03336/laws.FnConvertMv", spec := "fnConvertMv", apart := false, narrowed := true }
def FnConvertMvUptoSaid : Prop := fnConvertMvUptoRow.holds Try.pinned (OpenSpec.upto fnConvertMvSpec)

/-- 'laws.FnConvertSlli', WHERE WHAT IT READS IS OF BULK AT MOST 1048576: true; the input reads as it did. -/
def fnConvertSlliUptoRow : OpenClaim := { program := "ytjbbbjnhbdohoaa", sum := "f628b8e3f1834d2beb7993a9eca76432fc1eca822cc9bafb0b4e8ed798bac614", func := "loop.example/pub-g03336/laws.FnConvertSlli", spec := "fnConvertSlli", apart := false, narrowed := true }
def FnConvertSlliUptoSaid : Prop := fnConvertSlliUptoRow.holds Try.pinned (OpenSpec.upto fnConvertSlliSpec)

/-- 'laws.FnConvertSrli', WHERE WHAT IT READS IS OF BULK AT MOST 1048576: true; the input reads as it did. -/
def fnConvertSrliUptoRow : OpenClaim := { program := "ytjbbbjnhbdohoaa", sum := "f628b8e3f1834d2beb7993a9eca76432fc1eca822cc9bafb0b4e8ed798bac614", func := "loop.example/pub-g03336/laws.FnConvertSrli", spec := "fnConvertSrli", apart := false, narrowed := true }
def FnConvertSrliUptoSaid : Prop := fnConvertSrliUptoRow.holds Try.pinned (OpenSpec.upto fnConvertSrliSpec)

end Rows
end Go.Proofs.Ytjbbbjnhbdohoaa
