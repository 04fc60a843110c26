/-
  No cell of these rows narrows 'for every input' (looked for: loops, veiled, ifaces, maps, wideKeys, modest, calm, conditions, laid).
  DERIVED. THE GIVEN ROWS OF THIS SEAT. 5 by the template 'for every input the law returns true; each argument reads behind the call as it read before'; 0 by the template 'total and deterministic' (their statements: YtofgdpjhnlohoacTotals.lean).
  GIVEN WITH THE SEED: the statements are not yours to turn. If you find one false, say at which input.
  Laid BY PROGRAM, IN A SANDBOX (cutbox-rows.mjs): the forced cells as the released guide's own fill.sh prints them over the translation bf604e9bb27c28b4… (all of the seat's roots in one cut). By AI agents, Wed Nov 11 2026. No macro, syntax, notation, axiom, sorry.
-/
import Derived.Test.YtofgdpjhnlohoacChecked
import GoSem.Claim
import GoSem.ClaimJoined
import GoSem.ClaimMapViews
import Derived.JoinedTies
import Derived.KernelRfl
namespace Go.Proofs.Ytofgdpjhnlohoac
/- THE CELL 'sum', in the pinned program and in every row, IS THE sha256 OF THE DUMP (.gsa) THAT YtofgdpjhnlohoacProg.lean LOADS. Nothing in Lean hashes anything: it is a label: what it is worth is what the hold of that sum in a sandbox is worth. -/
noncomputable def Try.pinned : Pinned := { name := "ytofgdpjhnlohoac", sum := "bf604e9bb27c28b4f354d82d65200a4742b40d33fd667c0a046f032d4db0085c", checked := Try.checked }
namespace Rows
def none {H : Type} : Left H := { results := [], args := [] }

/-- 'laws.FnArgSimm5': WHATEVER THE INPUT: true; the input reads as it did. -/
def fnArgSimm5Spec : ChangeSpec := { name := "fnArgSimm5", fn := fun _ => fun
  | [d] => { results := [.lit (.bool true)], args := [d] }
  | _ => none }
def fnArgSimm5Row : OpenClaim := { program := "ytofgdpjhnlohoac", sum := "bf604e9bb27c28b4f354d82d65200a4742b40d33fd667c0a046f032d4db0085c", func := "loop.example/pub-g03336/laws.FnArgSimm5", spec := "fnArgSimm5", apart := false }
def FnArgSimm5Said : Prop := fnArgSimm5Row.holds Try.pinned (OpenSpec.ofChange fnArgSimm5Spec)

/-- ITS FALSE NEIGHBOUR: 'it returns false'. Refute it at one input. -/
def fnArgSimm5Wrong : ChangeSpec := { name := "fnArgSimm5", fn := fun _ => fun
  | [d] => { results := [.lit (.bool false)], args := [d] }
  | _ => none }
def FnArgSimm5WrongFalsely : Prop := fnArgSimm5Row.holds Try.pinned (OpenSpec.ofChange fnArgSimm5Wrong)

/-- 'laws.FnArgVd': WHATEVER THE INPUT: true; the input reads as it did. -/
def fnArgVdSpec : ChangeSpec := { name := "fnArgVd", fn := fun _ => fun
  | [d] => { results := [.lit (.bool true)], args := [d] }
  | _ => none }
def fnArgVdRow : OpenClaim := { program := "ytofgdpjhnlohoac", sum := "bf604e9bb27c28b4f354d82d65200a4742b40d33fd667c0a046f032d4db0085c", func := "loop.example/pub-g03336/laws.FnArgVd", spec := "fnArgVd", apart := false }
def FnArgVdSaid : Prop := fnArgVdRow.holds Try.pinned (OpenSpec.ofChange fnArgVdSpec)

/-- ITS FALSE NEIGHBOUR: 'it returns false'. Refute it at one input. -/
def fnArgVdWrong : ChangeSpec := { name := "fnArgVd", fn := fun _ => fun
  | [d] => { results := [.lit (.bool false)], args := [d] }
  | _ => none }
def FnArgVdWrongFalsely : Prop := fnArgVdRow.holds Try.pinned (OpenSpec.ofChange fnArgVdWrong)

/-- 'laws.FnArgVs2': WHATEVER THE INPUT: true; the input reads as it did. -/
def fnArgVs2Spec : ChangeSpec := { name := "fnArgVs2", fn := fun _ => fun
  | [d] => { results := [.lit (.bool true)], args := [d] }
  | _ => none }
def fnArgVs2Row : OpenClaim := { program := "ytofgdpjhnlohoac", sum := "bf604e9bb27c28b4f354d82d65200a4742b40d33fd667c0a046f032d4db0085c", func := "loop.example/pub-g03336/laws.FnArgVs2", spec := "fnArgVs2", apart := false }
def FnArgVs2Said : Prop := fnArgVs2Row.holds Try.pinned (OpenSpec.ofChange fnArgVs2Spec)

/-- ITS FALSE NEIGHBOUR: 'it returns false'. Refute it at one input. -/
def fnArgVs2Wrong : ChangeSpec := { name := "fnArgVs2", fn := fun _ => fun
  | [d] => { results := [.lit (.bool false)], args := [d] }
  | _ => none }
def FnArgVs2WrongFalsely : Prop := fnArgVs2Row.holds Try.pinned (OpenSpec.ofChange fnArgVs2Wrong)

/-- 'laws.FnArgVtypeZimm10': WHATEVER THE INPUT: true; the input reads as it did. -/
def fnArgVtypeZimm10Spec : ChangeSpec := { name := "fnArgVtypeZimm10", fn := fun _ => fun
  | [d] => { results := [.lit (.bool true)], args := [d] }
  | _ => none }
def fnArgVtypeZimm10Row : OpenClaim := { program := "ytofgdpjhnlohoac", sum := "bf604e9bb27c28b4f354d82d65200a4742b40d33fd667c0a046f032d4db0085c", func := "loop.example/pub-g03336/laws.FnArgVtypeZimm10", spec := "fnArgVtypeZimm10", apart := false }
def FnArgVtypeZimm10Said : Prop := fnArgVtypeZimm10Row.holds Try.pinned (OpenSpec.ofChange fnArgVtypeZimm10Spec)

/-- ITS FALSE NEIGHBOUR: 'it returns false'. Refute it at one input. -/
def fnArgVtypeZimm10Wrong : ChangeSpec := { name := "fnArgVtypeZimm10", fn := fun _ => fun
  | [d] => { results := [.lit (.bool false)], args := [d] }
  | _ => none }
def FnArgVtypeZimm10WrongFalsely : Prop := fnArgVtypeZimm10Row.holds Try.pinned (OpenSpec.ofChange fnArgVtypeZimm10Wrong)

/-- 'laws.FnArgZimm': WHATEVER THE INPUT: true; the input reads as it did. -/
def fnArgZimmSpec : ChangeSpec := { name := "fnArgZimm", fn := fun _ => fun
  | [d] => { results := [.lit (.bool true)], args := [d] }
  | _ => none }
def fnArgZimmRow : OpenClaim := { program := "ytofgdpjhnlohoac", sum := "bf604e9bb27c28b4f354d82d65200a4742b40d33fd667c0a046f032d4db0085c", func := "loop.example/pub-g03336/laws.FnArgZimm", spec := "fnArgZimm", apart := false }
def FnArgZimmSaid : Prop := fnArgZimmRow.holds Try.pinned (OpenSpec.ofChange fnArgZimmSpec)

/-- ITS FALSE NEIGHBOUR: 'it returns false'. Refute it at one input. -/
def fnArgZimmWrong : ChangeSpec := { name := "fnArgZimm", fn := fun _ => fun
  | [d] => { results := [.lit (.bool false)], args := [d] }
  | _ => none }
def FnArgZimmWrongFalsely : Prop := fnArgZimmRow.holds Try.pinned (OpenSpec.ofChange fnArgZimmWrong)

/- THE SECOND FORM. 'bulk': how many values and letters a reading holds, each counted each time it is reached (what is shared counts as often as it is met; a slice's spare places count too). A statement '..UptoSaid' is the law's where the arguments, and the package variables that the reading takes, are together of bulk at most 1048576: NARROWER than '..Said'. Prove '..Said' where nothing that the law and all that it calls make is longer than what came in: it says more and counts as full. Else prove '..UptoSaid'. A law counts once. -/
mutual
def uptoBulk {H : Type} : DataW H → Nat
  | .lit (.string bytes) => bytes.length + 1
  | .lit _ => 1
  | .nil => 1
  | .ptr d => uptoBulk d + 1
  | .slice elems spare => uptoBulkAll elems + uptoBulkAll spare + 1
  | .agg parts => uptoBulkAll parts + 1
  | .iface _ d => uptoBulk d + 1
  | .map entries => uptoBulkEntries entries + 1
  | .held _ => 1
def uptoBulkAll {H : Type} : List (DataW H) → Nat
  | [] => 0
  | d :: r => uptoBulk d + uptoBulkAll r
def uptoBulkEntries {H : Type} : List (Lit × DataW H) → Nat
  | [] => 0
  | x :: r => uptoBulkEntry x + uptoBulkEntries r
def uptoBulkEntry {H : Type} : Lit × DataW H → Nat
  | (.string bytes, d) => bytes.length + uptoBulk d + 1
  | (_, d) => uptoBulk d + 1
 end
def uptoSmall : (H : Type) → List (DataW H) → Bool := fun _ ds => decide (uptoBulkAll ds ≤ 1048576)
def OpenSpec.upto (s : _root_.Go.ChangeSpec) : _root_.Go.OpenSpec := { _root_.Go.OpenSpec.ofChange s with cond := some uptoSmall }

/-- 'laws.FnArgSimm5', WHERE WHAT IT READS IS OF BULK AT MOST 1048576: true; the input reads as it did. -/
def fnArgSimm5UptoRow : OpenClaim := { program := "ytofgdpjhnlohoac", sum := "bf604e9bb27c28b4f354d82d65200a4742b40d33fd667c0a046f032d4db0085c", func := "loop.example/pub-g03336/laws.FnArgSimm5", spec := "fnArgSimm5", apart := false, narrowed := true }
def FnArgSimm5UptoSaid : Prop := fnArgSimm5UptoRow.holds Try.pinned (OpenSpec.upto fnArgSimm5Spec)

/-- 'laws.FnArgVd', WHERE WHAT IT READS IS OF BULK AT MOST 1048576: true; the input reads as it did. -/
def fnArgVdUptoRow : OpenClaim := { program := "ytofgdpjhnlohoac", sum := "bf604e9bb27c28b4f354d82d65200a4742b40d33fd667c0a046f032d4db0085c", func := "loop.example/pub-g03336/laws.FnArgVd", spec := "fnArgVd", apart := false, narrowed := true }
def FnArgVdUptoSaid : Prop := fnArgVdUptoRow.holds Try.pinned (OpenSpec.upto fnArgVdSpec)

/-- 'laws.FnArgVs2', WHERE WHAT IT READS IS OF BULK AT MOST 1048576: true; the input reads as it did. -/
def fnArgVs2UptoRow : OpenClaim := { program := "ytofgdpjhnlohoac", sum := "bf604e9bb27c28b4f354d82d65200a4742b40d33fd667c0a046f032d4db0085c", func := "loop.example/pub-g03336/laws.FnArgVs2", spec := "fnArgVs2", apart := false, narrowed := true }
def FnArgVs2UptoSaid : Prop := fnArgVs2UptoRow.holds Try.pinned (OpenSpec.upto fnArgVs2Spec)

/-- 'laws.FnArgVtypeZimm10', WHERE WHAT IT READS IS OF BULK AT MOST 1048576: true; the input reads as it did. -/
def fnArgVtypeZimm10UptoRow : OpenClaim := { program := "ytofgdpjhnlohoac", sum := "bf604e9bb27c28b4f354d82d65200a4742b40d33fd667c0a046f032d4db0085c", func := "loop.example/pub-g03336/laws.FnArgVtypeZimm10", spec := "fnArgVtypeZimm10", apart := false, narrowed := true }
def FnArgVtypeZimm10UptoSaid : Prop := fnArgVtypeZimm10UptoRow.holds Try.pinned (OpenSpec.upto fnArgVtypeZimm10Spec)

/-- 'laws.FnArgZimm', WHERE WHAT IT READS IS OF BULK AT MOST 1048576: true; the input reads as it did. -/
def fnArgZimmUptoRow : OpenClaim := { program := "ytofgdpjhnlohoac", sum := "bf604e9bb27c28b4f354d82d65200a4742b40d33fd667c0a046f032d4db0085c", func := "loop.example/pub-g03336/laws.FnArgZimm", spec := "fnArgZimm", apart := false, narrowed := true }
def FnArgZimmUptoSaid : Prop := fnArgZimmUptoRow.holds Try.pinned (OpenSpec.upto fnArgZimmSpec)

end Rows
end Go.Proofs.Ytofgdpjhnlohoac
