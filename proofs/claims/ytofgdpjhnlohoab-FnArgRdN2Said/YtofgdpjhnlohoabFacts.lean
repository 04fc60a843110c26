/-
  CLOSED FACTS of the program, each by the kernel's evaluation: what a type assertion says of a value of each dynamic type. No condition.
-/
import Derived.Test.YtofgdpjhnlohoabChecked
import Derived.Tactics
import Derived.Laws.Build
import Derived.KernelRfl
namespace Go.Proofs.Ytofgdpjhnlohoab
open Go

@[go_sem] theorem mk_Reg (x : Value) (w : World) : (Instr.makeInterface 40 x).run Try.prog w = .ok (.iface 40 x) w := run_makeInterface w 40 x (by kernel_rfl)
@[go_sem] theorem as_Reg_Reg (v : Value) (w : World) : (Instr.typeAssert (.iface 40 v) 35 40 true).run Try.prog w = .ok (.tuple #[v, .bool true]) w := by kernel_rfl
@[go_sem] theorem mk_RegPtr (x : Value) (w : World) : (Instr.makeInterface 42 x).run Try.prog w = .ok (.iface 42 x) w := run_makeInterface w 42 x (by kernel_rfl)
@[go_sem] theorem as_RegPtr_Reg (v : Value) (w : World) : (Instr.typeAssert (.iface 42 v) 35 40 true).run Try.prog w = .ok (.tuple #[.int .u16 0, .bool false]) w := by kernel_rfl
@[go_sem] theorem as_RegPtr_RegPtr (v : Value) (w : World) : (Instr.typeAssert (.iface 42 v) 35 42 true).run Try.prog w = .ok (.tuple #[v, .bool true]) w := by kernel_rfl
@[go_sem] theorem mk_RegOffset (x : Value) (w : World) : (Instr.makeInterface 47 x).run Try.prog w = .ok (.iface 47 x) w := run_makeInterface w 47 x (by kernel_rfl)
@[go_sem] theorem as_RegOffset_Reg (v : Value) (w : World) : (Instr.typeAssert (.iface 47 v) 35 40 true).run Try.prog w = .ok (.tuple #[.int .u16 0, .bool false]) w := by kernel_rfl
@[go_sem] theorem as_RegOffset_RegPtr (v : Value) (w : World) : (Instr.typeAssert (.iface 47 v) 35 42 true).run Try.prog w = .ok (.tuple #[.agg #[.int .u16 0], .bool false]) w := by kernel_rfl
@[go_sem] theorem as_RegOffset_RegOffset (v : Value) (w : World) : (Instr.typeAssert (.iface 47 v) 35 47 true).run Try.prog w = .ok (.tuple #[v, .bool true]) w := by kernel_rfl
@[go_sem] theorem mk_Simm (x : Value) (w : World) : (Instr.makeInterface 45 x).run Try.prog w = .ok (.iface 45 x) w := run_makeInterface w 45 x (by kernel_rfl)
@[go_sem] theorem as_Simm_Reg (v : Value) (w : World) : (Instr.typeAssert (.iface 45 v) 35 40 true).run Try.prog w = .ok (.tuple #[.int .u16 0, .bool false]) w := by kernel_rfl
@[go_sem] theorem as_Simm_RegPtr (v : Value) (w : World) : (Instr.typeAssert (.iface 45 v) 35 42 true).run Try.prog w = .ok (.tuple #[.agg #[.int .u16 0], .bool false]) w := by kernel_rfl
@[go_sem] theorem as_Simm_RegOffset (v : Value) (w : World) : (Instr.typeAssert (.iface 45 v) 35 47 true).run Try.prog w = .ok (.tuple #[.agg #[.int .u16 0, .int .i32 0, .bool false, .int .u8 0], .bool false]) w := by kernel_rfl
@[go_sem] theorem as_Simm_Simm (v : Value) (w : World) : (Instr.typeAssert (.iface 45 v) 35 45 true).run Try.prog w = .ok (.tuple #[v, .bool true]) w := by kernel_rfl
@[go_sem] theorem mk_Uimm (x : Value) (w : World) : (Instr.makeInterface 49 x).run Try.prog w = .ok (.iface 49 x) w := run_makeInterface w 49 x (by kernel_rfl)
@[go_sem] theorem as_Uimm_Reg (v : Value) (w : World) : (Instr.typeAssert (.iface 49 v) 35 40 true).run Try.prog w = .ok (.tuple #[.int .u16 0, .bool false]) w := by kernel_rfl
@[go_sem] theorem as_Uimm_RegPtr (v : Value) (w : World) : (Instr.typeAssert (.iface 49 v) 35 42 true).run Try.prog w = .ok (.tuple #[.agg #[.int .u16 0], .bool false]) w := by kernel_rfl
@[go_sem] theorem as_Uimm_RegOffset (v : Value) (w : World) : (Instr.typeAssert (.iface 49 v) 35 47 true).run Try.prog w = .ok (.tuple #[.agg #[.int .u16 0, .int .i32 0, .bool false, .int .u8 0], .bool false]) w := by kernel_rfl
@[go_sem] theorem as_Uimm_Simm (v : Value) (w : World) : (Instr.typeAssert (.iface 49 v) 35 45 true).run Try.prog w = .ok (.tuple #[.agg #[.int .i32 0, .bool false, .int .u8 0], .bool false]) w := by kernel_rfl
@[go_sem] theorem as_Uimm_Uimm (v : Value) (w : World) : (Instr.typeAssert (.iface 49 v) 35 49 true).run Try.prog w = .ok (.tuple #[v, .bool true]) w := by kernel_rfl
@[go_sem] theorem mk_CSR (x : Value) (w : World) : (Instr.makeInterface 50 x).run Try.prog w = .ok (.iface 50 x) w := run_makeInterface w 50 x (by kernel_rfl)
@[go_sem] theorem as_CSR_Reg (v : Value) (w : World) : (Instr.typeAssert (.iface 50 v) 35 40 true).run Try.prog w = .ok (.tuple #[.int .u16 0, .bool false]) w := by kernel_rfl
@[go_sem] theorem as_CSR_RegPtr (v : Value) (w : World) : (Instr.typeAssert (.iface 50 v) 35 42 true).run Try.prog w = .ok (.tuple #[.agg #[.int .u16 0], .bool false]) w := by kernel_rfl
@[go_sem] theorem as_CSR_RegOffset (v : Value) (w : World) : (Instr.typeAssert (.iface 50 v) 35 47 true).run Try.prog w = .ok (.tuple #[.agg #[.int .u16 0, .int .i32 0, .bool false, .int .u8 0], .bool false]) w := by kernel_rfl
@[go_sem] theorem as_CSR_Simm (v : Value) (w : World) : (Instr.typeAssert (.iface 50 v) 35 45 true).run Try.prog w = .ok (.tuple #[.agg #[.int .i32 0, .bool false, .int .u8 0], .bool false]) w := by kernel_rfl
@[go_sem] theorem as_CSR_Uimm (v : Value) (w : World) : (Instr.typeAssert (.iface 50 v) 35 49 true).run Try.prog w = .ok (.tuple #[.agg #[.int .u32 0, .bool false], .bool false]) w := by kernel_rfl
@[go_sem] theorem as_CSR_CSR (v : Value) (w : World) : (Instr.typeAssert (.iface 50 v) 35 50 true).run Try.prog w = .ok (.tuple #[v, .bool true]) w := by kernel_rfl
@[go_sem] theorem mk_MemOrder (x : Value) (w : World) : (Instr.makeInterface 51 x).run Try.prog w = .ok (.iface 51 x) w := run_makeInterface w 51 x (by kernel_rfl)
@[go_sem] theorem as_MemOrder_Reg (v : Value) (w : World) : (Instr.typeAssert (.iface 51 v) 35 40 true).run Try.prog w = .ok (.tuple #[.int .u16 0, .bool false]) w := by kernel_rfl
@[go_sem] theorem as_MemOrder_RegPtr (v : Value) (w : World) : (Instr.typeAssert (.iface 51 v) 35 42 true).run Try.prog w = .ok (.tuple #[.agg #[.int .u16 0], .bool false]) w := by kernel_rfl
@[go_sem] theorem as_MemOrder_RegOffset (v : Value) (w : World) : (Instr.typeAssert (.iface 51 v) 35 47 true).run Try.prog w = .ok (.tuple #[.agg #[.int .u16 0, .int .i32 0, .bool false, .int .u8 0], .bool false]) w := by kernel_rfl
@[go_sem] theorem as_MemOrder_Simm (v : Value) (w : World) : (Instr.typeAssert (.iface 51 v) 35 45 true).run Try.prog w = .ok (.tuple #[.agg #[.int .i32 0, .bool false, .int .u8 0], .bool false]) w := by kernel_rfl
@[go_sem] theorem as_MemOrder_Uimm (v : Value) (w : World) : (Instr.typeAssert (.iface 51 v) 35 49 true).run Try.prog w = .ok (.tuple #[.agg #[.int .u32 0, .bool false], .bool false]) w := by kernel_rfl
@[go_sem] theorem as_MemOrder_CSR (v : Value) (w : World) : (Instr.typeAssert (.iface 51 v) 35 50 true).run Try.prog w = .ok (.tuple #[.int .u16 0, .bool false]) w := by kernel_rfl
@[go_sem] theorem as_MemOrder_MemOrder (v : Value) (w : World) : (Instr.typeAssert (.iface 51 v) 35 51 true).run Try.prog w = .ok (.tuple #[v, .bool true]) w := by kernel_rfl
@[go_sem] theorem mk_VType (x : Value) (w : World) : (Instr.makeInterface 52 x).run Try.prog w = .ok (.iface 52 x) w := run_makeInterface w 52 x (by kernel_rfl)
@[go_sem] theorem as_VType_Reg (v : Value) (w : World) : (Instr.typeAssert (.iface 52 v) 35 40 true).run Try.prog w = .ok (.tuple #[.int .u16 0, .bool false]) w := by kernel_rfl
@[go_sem] theorem as_VType_RegPtr (v : Value) (w : World) : (Instr.typeAssert (.iface 52 v) 35 42 true).run Try.prog w = .ok (.tuple #[.agg #[.int .u16 0], .bool false]) w := by kernel_rfl
@[go_sem] theorem as_VType_RegOffset (v : Value) (w : World) : (Instr.typeAssert (.iface 52 v) 35 47 true).run Try.prog w = .ok (.tuple #[.agg #[.int .u16 0, .int .i32 0, .bool false, .int .u8 0], .bool false]) w := by kernel_rfl
@[go_sem] theorem as_VType_Simm (v : Value) (w : World) : (Instr.typeAssert (.iface 52 v) 35 45 true).run Try.prog w = .ok (.tuple #[.agg #[.int .i32 0, .bool false, .int .u8 0], .bool false]) w := by kernel_rfl
@[go_sem] theorem as_VType_Uimm (v : Value) (w : World) : (Instr.typeAssert (.iface 52 v) 35 49 true).run Try.prog w = .ok (.tuple #[.agg #[.int .u32 0, .bool false], .bool false]) w := by kernel_rfl
@[go_sem] theorem as_VType_CSR (v : Value) (w : World) : (Instr.typeAssert (.iface 52 v) 35 50 true).run Try.prog w = .ok (.tuple #[.int .u16 0, .bool false]) w := by kernel_rfl
@[go_sem] theorem as_VType_MemOrder (v : Value) (w : World) : (Instr.typeAssert (.iface 52 v) 35 51 true).run Try.prog w = .ok (.tuple #[.int .u8 0, .bool false]) w := by kernel_rfl
@[go_sem] theorem as_VType_VType (v : Value) (w : World) : (Instr.typeAssert (.iface 52 v) 35 52 true).run Try.prog w = .ok (.tuple #[v, .bool true]) w := by kernel_rfl

end Go.Proofs.Ytofgdpjhnlohoab
