/-
  CLOSED FACTS of the program, each by the kernel's evaluation: what a type assertion says of a value of each dynamic type. No condition.
-/
import Derived.Test.YtjbbbjnhbdohoaaChecked
import Derived.Tactics
import Derived.Laws.Build
import Derived.KernelRfl
namespace Go.Proofs.Ytjbbbjnhbdohoaa
open Go

@[go_sem] theorem mk_Reg (x : Value) (w : World) : (Instr.makeInterface 50 x).run Try.prog w = .ok (.iface 50 x) w := run_makeInterface w 50 x (by kernel_rfl)
@[go_sem] theorem as_Reg_Reg (v : Value) (w : World) : (Instr.typeAssert (.iface 50 v) 37 50 true).run Try.prog w = .ok (.tuple #[v, .bool true]) w := by kernel_rfl
@[go_sem] theorem mk_RegPtr (x : Value) (w : World) : (Instr.makeInterface 69 x).run Try.prog w = .ok (.iface 69 x) w := run_makeInterface w 69 x (by kernel_rfl)
@[go_sem] theorem as_RegPtr_Reg (v : Value) (w : World) : (Instr.typeAssert (.iface 69 v) 37 50 true).run Try.prog w = .ok (.tuple #[.int .u16 0, .bool false]) w := by kernel_rfl
@[go_sem] theorem as_RegPtr_RegPtr (v : Value) (w : World) : (Instr.typeAssert (.iface 69 v) 37 69 true).run Try.prog w = .ok (.tuple #[v, .bool true]) w := by kernel_rfl
@[go_sem] theorem mk_RegOffset (x : Value) (w : World) : (Instr.makeInterface 54 x).run Try.prog w = .ok (.iface 54 x) w := run_makeInterface w 54 x (by kernel_rfl)
@[go_sem] theorem as_RegOffset_Reg (v : Value) (w : World) : (Instr.typeAssert (.iface 54 v) 37 50 true).run Try.prog w = .ok (.tuple #[.int .u16 0, .bool false]) w := by kernel_rfl
@[go_sem] theorem as_RegOffset_RegPtr (v : Value) (w : World) : (Instr.typeAssert (.iface 54 v) 37 69 true).run Try.prog w = .ok (.tuple #[.agg #[.int .u16 0], .bool false]) w := by kernel_rfl
@[go_sem] theorem as_RegOffset_RegOffset (v : Value) (w : World) : (Instr.typeAssert (.iface 54 v) 37 54 true).run Try.prog w = .ok (.tuple #[v, .bool true]) w := by kernel_rfl
@[go_sem] theorem mk_Simm (x : Value) (w : World) : (Instr.makeInterface 52 x).run Try.prog w = .ok (.iface 52 x) w := run_makeInterface w 52 x (by kernel_rfl)
@[go_sem] theorem as_Simm_Reg (v : Value) (w : World) : (Instr.typeAssert (.iface 52 v) 37 50 true).run Try.prog w = .ok (.tuple #[.int .u16 0, .bool false]) w := by kernel_rfl
@[go_sem] theorem as_Simm_RegPtr (v : Value) (w : World) : (Instr.typeAssert (.iface 52 v) 37 69 true).run Try.prog w = .ok (.tuple #[.agg #[.int .u16 0], .bool false]) w := by kernel_rfl
@[go_sem] theorem as_Simm_RegOffset (v : Value) (w : World) : (Instr.typeAssert (.iface 52 v) 37 54 true).run Try.prog w = .ok (.tuple #[.agg #[.int .u16 0, .int .i32 0, .bool false, .int .u8 0], .bool false]) w := by kernel_rfl
@[go_sem] theorem as_Simm_Simm (v : Value) (w : World) : (Instr.typeAssert (.iface 52 v) 37 52 true).run Try.prog w = .ok (.tuple #[v, .bool true]) w := by kernel_rfl
@[go_sem] theorem mk_Uimm (x : Value) (w : World) : (Instr.makeInterface 56 x).run Try.prog w = .ok (.iface 56 x) w := run_makeInterface w 56 x (by kernel_rfl)
@[go_sem] theorem as_Uimm_Reg (v : Value) (w : World) : (Instr.typeAssert (.iface 56 v) 37 50 true).run Try.prog w = .ok (.tuple #[.int .u16 0, .bool false]) w := by kernel_rfl
@[go_sem] theorem as_Uimm_RegPtr (v : Value) (w : World) : (Instr.typeAssert (.iface 56 v) 37 69 true).run Try.prog w = .ok (.tuple #[.agg #[.int .u16 0], .bool false]) w := by kernel_rfl
@[go_sem] theorem as_Uimm_RegOffset (v : Value) (w : World) : (Instr.typeAssert (.iface 56 v) 37 54 true).run Try.prog w = .ok (.tuple #[.agg #[.int .u16 0, .int .i32 0, .bool false, .int .u8 0], .bool false]) w := by kernel_rfl
@[go_sem] theorem as_Uimm_Simm (v : Value) (w : World) : (Instr.typeAssert (.iface 56 v) 37 52 true).run Try.prog w = .ok (.tuple #[.agg #[.int .i32 0, .bool false, .int .u8 0], .bool false]) w := by kernel_rfl
@[go_sem] theorem as_Uimm_Uimm (v : Value) (w : World) : (Instr.typeAssert (.iface 56 v) 37 56 true).run Try.prog w = .ok (.tuple #[v, .bool true]) w := by kernel_rfl
@[go_sem] theorem mk_CSR (x : Value) (w : World) : (Instr.makeInterface 57 x).run Try.prog w = .ok (.iface 57 x) w := run_makeInterface w 57 x (by kernel_rfl)
@[go_sem] theorem as_CSR_Reg (v : Value) (w : World) : (Instr.typeAssert (.iface 57 v) 37 50 true).run Try.prog w = .ok (.tuple #[.int .u16 0, .bool false]) w := by kernel_rfl
@[go_sem] theorem as_CSR_RegPtr (v : Value) (w : World) : (Instr.typeAssert (.iface 57 v) 37 69 true).run Try.prog w = .ok (.tuple #[.agg #[.int .u16 0], .bool false]) w := by kernel_rfl
@[go_sem] theorem as_CSR_RegOffset (v : Value) (w : World) : (Instr.typeAssert (.iface 57 v) 37 54 true).run Try.prog w = .ok (.tuple #[.agg #[.int .u16 0, .int .i32 0, .bool false, .int .u8 0], .bool false]) w := by kernel_rfl
@[go_sem] theorem as_CSR_Simm (v : Value) (w : World) : (Instr.typeAssert (.iface 57 v) 37 52 true).run Try.prog w = .ok (.tuple #[.agg #[.int .i32 0, .bool false, .int .u8 0], .bool false]) w := by kernel_rfl
@[go_sem] theorem as_CSR_Uimm (v : Value) (w : World) : (Instr.typeAssert (.iface 57 v) 37 56 true).run Try.prog w = .ok (.tuple #[.agg #[.int .u32 0, .bool false], .bool false]) w := by kernel_rfl
@[go_sem] theorem as_CSR_CSR (v : Value) (w : World) : (Instr.typeAssert (.iface 57 v) 37 57 true).run Try.prog w = .ok (.tuple #[v, .bool true]) w := by kernel_rfl
@[go_sem] theorem mk_MemOrder (x : Value) (w : World) : (Instr.makeInterface 58 x).run Try.prog w = .ok (.iface 58 x) w := run_makeInterface w 58 x (by kernel_rfl)
@[go_sem] theorem as_MemOrder_Reg (v : Value) (w : World) : (Instr.typeAssert (.iface 58 v) 37 50 true).run Try.prog w = .ok (.tuple #[.int .u16 0, .bool false]) w := by kernel_rfl
@[go_sem] theorem as_MemOrder_RegPtr (v : Value) (w : World) : (Instr.typeAssert (.iface 58 v) 37 69 true).run Try.prog w = .ok (.tuple #[.agg #[.int .u16 0], .bool false]) w := by kernel_rfl
@[go_sem] theorem as_MemOrder_RegOffset (v : Value) (w : World) : (Instr.typeAssert (.iface 58 v) 37 54 true).run Try.prog w = .ok (.tuple #[.agg #[.int .u16 0, .int .i32 0, .bool false, .int .u8 0], .bool false]) w := by kernel_rfl
@[go_sem] theorem as_MemOrder_Simm (v : Value) (w : World) : (Instr.typeAssert (.iface 58 v) 37 52 true).run Try.prog w = .ok (.tuple #[.agg #[.int .i32 0, .bool false, .int .u8 0], .bool false]) w := by kernel_rfl
@[go_sem] theorem as_MemOrder_Uimm (v : Value) (w : World) : (Instr.typeAssert (.iface 58 v) 37 56 true).run Try.prog w = .ok (.tuple #[.agg #[.int .u32 0, .bool false], .bool false]) w := by kernel_rfl
@[go_sem] theorem as_MemOrder_CSR (v : Value) (w : World) : (Instr.typeAssert (.iface 58 v) 37 57 true).run Try.prog w = .ok (.tuple #[.int .u16 0, .bool false]) w := by kernel_rfl
@[go_sem] theorem as_MemOrder_MemOrder (v : Value) (w : World) : (Instr.typeAssert (.iface 58 v) 37 58 true).run Try.prog w = .ok (.tuple #[v, .bool true]) w := by kernel_rfl
@[go_sem] theorem mk_VType (x : Value) (w : World) : (Instr.makeInterface 59 x).run Try.prog w = .ok (.iface 59 x) w := run_makeInterface w 59 x (by kernel_rfl)
@[go_sem] theorem as_VType_Reg (v : Value) (w : World) : (Instr.typeAssert (.iface 59 v) 37 50 true).run Try.prog w = .ok (.tuple #[.int .u16 0, .bool false]) w := by kernel_rfl
@[go_sem] theorem as_VType_RegPtr (v : Value) (w : World) : (Instr.typeAssert (.iface 59 v) 37 69 true).run Try.prog w = .ok (.tuple #[.agg #[.int .u16 0], .bool false]) w := by kernel_rfl
@[go_sem] theorem as_VType_RegOffset (v : Value) (w : World) : (Instr.typeAssert (.iface 59 v) 37 54 true).run Try.prog w = .ok (.tuple #[.agg #[.int .u16 0, .int .i32 0, .bool false, .int .u8 0], .bool false]) w := by kernel_rfl
@[go_sem] theorem as_VType_Simm (v : Value) (w : World) : (Instr.typeAssert (.iface 59 v) 37 52 true).run Try.prog w = .ok (.tuple #[.agg #[.int .i32 0, .bool false, .int .u8 0], .bool false]) w := by kernel_rfl
@[go_sem] theorem as_VType_Uimm (v : Value) (w : World) : (Instr.typeAssert (.iface 59 v) 37 56 true).run Try.prog w = .ok (.tuple #[.agg #[.int .u32 0, .bool false], .bool false]) w := by kernel_rfl
@[go_sem] theorem as_VType_CSR (v : Value) (w : World) : (Instr.typeAssert (.iface 59 v) 37 57 true).run Try.prog w = .ok (.tuple #[.int .u16 0, .bool false]) w := by kernel_rfl
@[go_sem] theorem as_VType_MemOrder (v : Value) (w : World) : (Instr.typeAssert (.iface 59 v) 37 58 true).run Try.prog w = .ok (.tuple #[.int .u8 0, .bool false]) w := by kernel_rfl
@[go_sem] theorem as_VType_VType (v : Value) (w : World) : (Instr.typeAssert (.iface 59 v) 37 59 true).run Try.prog w = .ok (.tuple #[v, .bool true]) w := by kernel_rfl

end Go.Proofs.Ytjbbbjnhbdohoaa
