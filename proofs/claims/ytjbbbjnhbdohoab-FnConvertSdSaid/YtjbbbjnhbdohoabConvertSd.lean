/-
  'laws.FnConvertSd' returns true for every word of 32 bits. No condition.
-/
import Derived.Test.YtjbbbjnhbdohoabRows
import Derived.Test.YtjbbbjnhbdohoabQ
import Derived.Test.YtjbbbjnhbdohoabBits
import Derived.Test.YtjbbbjnhbdohoabFacts
import Derived.Test.YtjbbbjnhbdohoabConv
import Derived.WalkKit
import Derived.WalkLawsBesides
import Derived.WalkSpells
import Derived.ProofKit
import Derived.OpenShut
import Derived.Handy
import Derived.RegionTactic
import Derived.ChangeAlike
import Derived.BigRegion
import Derived.Deep.RegionHeld3
import Derived.Deep.DeepMust
namespace Go.Proofs.Ytjbbbjnhbdohoab.fnConvertSd
open Go Go.ChangeShapes Go.WideShapes Go.ChangeAt Go.RowKit Conv
set_option linter.unusedVariables false
theorem own : ownKnob Try.prog.godebug = none := by kernel_rfl
theorem mixed : Try.prog.follows .mixedOrders = true := by kernel_rfl

theorem dec0 (n : Nat) (hn : n < 4294967296) : Q.Gives Try.prog 24 #[.int .u16 34, .int .u32 (n : Int)] (.iface 46 (.int .u16 (8 + ((n / 2 ^ 7 % 2 ^ 3 : Nat) : Int)))) := by
  have e : Q.run Try.prog 4 3 [] 24 #[.int .u16 34, .int .u32 (n : Int)] = some ((Value.iface 46 (.int .u16 (IntKind.u16.wrap (8 + (IntKind.u16.wrap (Ev.an (Ev.shr (n : Int) 7) 7)))))), []) := by kernel_rfl
  have r : (IntKind.u16.wrap (8 + (IntKind.u16.wrap (Ev.an (Ev.shr (n : Int) 7) 7)))) = ((8 + n / 2 ^ 7 % 2 ^ 3 : Nat) : Int) := Ev.reg n 7 3 7 8 (by decide) (by decide) hn (by decide)
  rw [r] at e
  refine Q.Gives.eq (Q.gives mixed e trivial) ?_
  have z : ((8 + n / 2 ^ 7 % 2 ^ 3 : Nat) : Int) = 8 + ((n / 2 ^ 7 % 2 ^ 3 : Nat) : Int) := by omega
  rw [z]
theorem num0 (n : Nat) (hn : n < 4294967296) : ∃ r0 : Int, (0 ≤ r0 ∧ r0 < 65536) ∧ Q.Gives Try.prog 24 #[.int .u16 34, .int .u32 (n : Int)] (.iface 46 (.int .u16 r0)) :=
  ⟨(8 + ((n / 2 ^ 7 % 2 ^ 3 : Nat) : Int)), ⟨by omega, by omega⟩, dec0 n hn⟩
set_option maxRecDepth 100000 in
theorem arg0 (r0 : Int) (n : Nat) (h0 : 0 ≤ r0) (h1 : r0 < 65536) (g : Q.Gives Try.prog 24 #[.int .u16 34, .int .u32 (n : Int)] (.iface 46 (.int .u16 r0))) (w : World) : Calls Try.prog 18 #[.int .u32 (n : Int)] w fun e w' => e = .returned (.agg #[.int .i64 1, .int .i64 r0, .int .i64 0]) ∧ Below w.heap.size w w' := by
  have d : ∀ w, Calls _ _ _ w _ := g
  clear g
  go_enter Try.func18, Try.ntmps18
  go_wp2_with (first | (go_at_call 24; ((with_reducible refine (d _).mono ?_); rintro e w' ⟨rfl, m, rfl⟩)) | go_in)
  go_returns
  exact ⟨rfl, (by (repeat' (first | (with_reducible exact Below.refl _ _) | (with_reducible assumption) | (with_reducible refine Below.alloc ?_ ?_ _) | (with_reducible refine below_drewN' ?_ _) | (with_reducible refine Below.drew ?_) | (with_reducible refine Below.setCell ?_ ?_ _) | go_size)))⟩
theorem any0 (n : Nat) (hn : n < 4294967296) (w : World) : Calls Try.prog 18 #[.int .u32 (n : Int)] w fun e w' => ∃ k r t : Int, e = .returned (.agg #[.int .i64 k, .int .i64 r, .int .i64 t]) ∧ Below w.heap.size w w' := by
  obtain ⟨x, ⟨h0, h1⟩, g⟩ := num0 n hn
  exact (arg0 x n h0 h1 g w).mono fun e w' h => ⟨_, _, _, h⟩
theorem dec1 (n : Nat) (hn : n < 4294967296) : Q.Gives Try.prog 24 #[.int .u16 37, .int .u32 (n : Int)] (.iface 46 (.int .u16 (8 + ((n / 2 ^ 2 % 2 ^ 3 : Nat) : Int)))) := by
  have e : Q.run Try.prog 4 3 [] 24 #[.int .u16 37, .int .u32 (n : Int)] = some ((Value.iface 46 (.int .u16 (IntKind.u16.wrap (8 + (IntKind.u16.wrap (Ev.an (Ev.shr (n : Int) 2) 7)))))), []) := by kernel_rfl
  have r : (IntKind.u16.wrap (8 + (IntKind.u16.wrap (Ev.an (Ev.shr (n : Int) 2) 7)))) = ((8 + n / 2 ^ 2 % 2 ^ 3 : Nat) : Int) := Ev.reg n 2 3 7 8 (by decide) (by decide) hn (by decide)
  rw [r] at e
  refine Q.Gives.eq (Q.gives mixed e trivial) ?_
  have z : ((8 + n / 2 ^ 2 % 2 ^ 3 : Nat) : Int) = 8 + ((n / 2 ^ 2 % 2 ^ 3 : Nat) : Int) := by omega
  rw [z]
theorem num1 (n : Nat) (hn : n < 4294967296) : ∃ r1 : Int, (0 ≤ r1 ∧ r1 < 65536) ∧ Q.Gives Try.prog 24 #[.int .u16 37, .int .u32 (n : Int)] (.iface 46 (.int .u16 r1)) :=
  ⟨(8 + ((n / 2 ^ 2 % 2 ^ 3 : Nat) : Int)), ⟨by omega, by omega⟩, dec1 n hn⟩
set_option maxRecDepth 100000 in
theorem arg1 (r1 : Int) (n : Nat) (h0 : 0 ≤ r1) (h1 : r1 < 65536) (g : Q.Gives Try.prog 24 #[.int .u16 37, .int .u32 (n : Int)] (.iface 46 (.int .u16 r1))) (w : World) : Calls Try.prog 10 #[.int .u32 (n : Int)] w fun e w' => e = .returned (.agg #[.int .i64 1, .int .i64 r1, .int .i64 0]) ∧ Below w.heap.size w w' := by
  have d : ∀ w, Calls _ _ _ w _ := g
  clear g
  go_enter Try.func10, Try.ntmps10
  go_wp2_with (first | (go_at_call 24; ((with_reducible refine (d _).mono ?_); rintro e w' ⟨rfl, m, rfl⟩)) | go_in)
  go_returns
  exact ⟨rfl, (by (repeat' (first | (with_reducible exact Below.refl _ _) | (with_reducible assumption) | (with_reducible refine Below.alloc ?_ ?_ _) | (with_reducible refine below_drewN' ?_ _) | (with_reducible refine Below.drew ?_) | (with_reducible refine Below.setCell ?_ ?_ _) | go_size)))⟩
theorem any1 (n : Nat) (hn : n < 4294967296) (w : World) : Calls Try.prog 10 #[.int .u32 (n : Int)] w fun e w' => ∃ k r t : Int, e = .returned (.agg #[.int .i64 k, .int .i64 r, .int .i64 t]) ∧ Below w.heap.size w w' := by
  obtain ⟨x, ⟨h0, h1⟩, g⟩ := num1 n hn
  exact (arg1 x n h0 h1 g w).mono fun e w' h => ⟨_, _, _, h⟩
def U2 (n : Nat) : Nat := n / 2 ^ 5 % 2 ^ 2 * 2 ^ 6 + n / 2 ^ 10 % 2 ^ 3 * 2 ^ 3
theorem U2_lt (n : Nat) : U2 n < 2 ^ 8 := by unfold U2; omega
theorem join2 (f1 f2 : Nat) (h1 : f1 < 2 ^ 2) (h2 : f2 < 2 ^ 3) :
    (Ev.o ((f1 * 2 ^ 6 : Nat) : Int) ((f2 * 2 ^ 3 : Nat) : Int)) = ((f1 * 2 ^ 6 + f2 * 2 ^ 3 : Nat) : Int) := by
  rw [Ev.o_field (f1 * 2 ^ 6) f2 3 3 h2 (by omega) (by decide) (by omega)]
theorem imm2 (n : Nat) (hn : n < 4294967296) : (Ev.o (Ev.shl (Ev.shr (Ev.shl (n : Int) 25) 30) 6) (Ev.shl (Ev.shr (Ev.shl (n : Int) 19) 29) 3)) = ((U2 n : Nat) : Int) := by
  have t1 : (Ev.shl (Ev.shr (Ev.shl (n : Int) 25) 30) 6) = ((n / 2 ^ 5 % 2 ^ 2 * 2 ^ 6 : Nat) : Int) := Ev.T3 n 25 30 6 (by decide) (by decide) (by decide)
  have t2 : (Ev.shl (Ev.shr (Ev.shl (n : Int) 19) 29) 3) = ((n / 2 ^ 10 % 2 ^ 3 * 2 ^ 3 : Nat) : Int) := Ev.T3 n 19 29 3 (by decide) (by decide) (by decide)
  rw [t1, t2]
  exact join2 _ _ (Nat.mod_lt _ (by decide)) (Nat.mod_lt _ (by decide))
theorem dec2 (n : Nat) (hn : n < 4294967296) : Q.Gives Try.prog 24 #[.int .u16 50, .int .u32 (n : Int)] (.iface 55 (.agg #[.int .u32 ((U2 n : Nat) : Int), .bool false])) := by
  have e : Q.run Try.prog 4 3 [] 24 #[.int .u16 50, .int .u32 (n : Int)] = some ((Value.iface 55 (.agg #[.int .u32 (Ev.o (Ev.shl (Ev.shr (Ev.shl (n : Int) 25) 30) 6) (Ev.shl (Ev.shr (Ev.shl (n : Int) 19) 29) 3)), .bool false])), []) := by kernel_rfl
  rw [imm2 n hn] at e
  exact Q.gives mixed e trivial
theorem num2 (n : Nat) (hn : n < 4294967296) : ∃ u2 : Int, (0 ≤ u2 ∧ u2 < 2147483648) ∧ Q.Gives Try.prog 24 #[.int .u16 50, .int .u32 (n : Int)] (.iface 55 (.agg #[.int .u32 u2, .bool false])) :=
  ⟨((U2 n : Nat) : Int), ⟨by omega, by have := U2_lt n; omega⟩, dec2 n hn⟩
set_option maxRecDepth 100000 in
theorem arg2 (u2 : Int) (n : Nat) (h0 : 0 ≤ u2) (h1 : u2 < 2147483648) (g : Q.Gives Try.prog 24 #[.int .u16 50, .int .u32 (n : Int)] (.iface 55 (.agg #[.int .u32 u2, .bool false]))) (w : World) : Calls Try.prog 19 #[.int .u32 (n : Int)] w fun e w' => e = .returned (.agg #[.int .i64 5, .int .i64 0, .int .i64 u2]) ∧ Below w.heap.size w w' := by
  have d : ∀ w, Calls _ _ _ w _ := g
  clear g
  go_enter Try.func19, Try.ntmps19
  go_wp2_with (first | (go_at_call 24; ((with_reducible refine (d _).mono ?_); rintro e w' ⟨rfl, m, rfl⟩)) | go_in)
  go_returns
  exact ⟨rfl, (by (repeat' (first | (with_reducible exact Below.refl _ _) | (with_reducible assumption) | (with_reducible refine Below.alloc ?_ ?_ _) | (with_reducible refine below_drewN' ?_ _) | (with_reducible refine Below.drew ?_) | (with_reducible refine Below.setCell ?_ ?_ _) | go_size)))⟩
theorem any2 (n : Nat) (hn : n < 4294967296) (w : World) : Calls Try.prog 19 #[.int .u32 (n : Int)] w fun e w' => ∃ k r t : Int, e = .returned (.agg #[.int .i64 k, .int .i64 r, .int .i64 t]) ∧ Below w.heap.size w w' := by
  obtain ⟨x, ⟨h0, h1⟩, g⟩ := num2 n hn
  exact (arg2 x n h0 h1 g w).mono fun e w' h => ⟨_, _, _, h⟩
set_option maxRecDepth 100000 in
set_option maxHeartbeats 4000000 in
theorem zz (r0 r1 u2 : Int) (lo_r0 : 0 ≤ r0) (hi_r0 : r0 < 65536) (lo_r1 : 0 ≤ r1) (hi_r1 : r1 < 65536) (lo_u2 : 0 ≤ u2) (hi_u2 : u2 < 2147483648) (w : World) : Calls Try.prog 26 #[.int .u16 144, .agg #[(.iface 46 (.int .u16 r0)), (.iface 46 (.int .u16 r1)), (.iface 55 (.agg #[.int .u32 u2, .bool true])), .nilIface, .nilIface, .nilIface]] w fun e w' => e = .returned (.tuple #[.int .u16 340, .agg #[(.iface 46 (.int .u16 r1)), (.iface 53 (.agg #[.int .u16 r0, .int .i32 u2, .bool true, .int .u8 12])), .nilIface, .nilIface, .nilIface, .nilIface]]) ∧ Below w.heap.size w w' := by
  go_enter Try.func26, Try.ntmps26
  go_wp2
  all_goals (try go_region)
  all_goals go_wp2
  all_goals (try go_region)
  all_goals go_wp2
  all_goals go_returns
  all_goals (refine ⟨rfl, ?_⟩)
  all_goals (repeat' (first | (with_reducible exact Below.refl _ _) | (with_reducible assumption) | (with_reducible refine Below.alloc ?_ ?_ _) | (with_reducible refine below_drewN' ?_ _) | (with_reducible refine Below.drew ?_) | (with_reducible refine Below.setCell ?_ ?_ _) | go_size))
set_option maxRecDepth 100000 in
set_option maxHeartbeats 1000000 in
theorem turned (r0 r1 u2 : Int) (lo_r0 : 0 ≤ r0) (hi_r0 : r0 < 65536) (lo_r1 : 0 ≤ r1) (hi_r1 : r1 < 65536) (lo_u2 : 0 ≤ u2) (hi_u2 : u2 < 2147483648) (b cap : Nat) (w : World) (x0 : w.cell? ⟨b, 0, none⟩ = some (.int .i64 1)) (x1 : w.cell? ⟨b, 1, none⟩ = some (.int .i64 r0)) (x2 : w.cell? ⟨b, 2, none⟩ = some (.int .i64 0)) (x3 : w.cell? ⟨b, 3, none⟩ = some (.int .i64 1)) (x4 : w.cell? ⟨b, 4, none⟩ = some (.int .i64 r1)) (x5 : w.cell? ⟨b, 5, none⟩ = some (.int .i64 0)) (x6 : w.cell? ⟨b, 6, none⟩ = some (.int .i64 5)) (x7 : w.cell? ⟨b, 7, none⟩ = some (.int .i64 0)) (x8 : w.cell? ⟨b, 8, none⟩ = some (.int .i64 u2)) : Calls Try.prog 11 #[.int .i64 144, .slice (some ⟨b, 0, none⟩) 3 cap] w
    fun e w' => ∃ g cap', e = .returned (.tuple #[.int .i64 340, .slice (some ⟨g, 0, none⟩) 2 cap']) ∧ RowAt w' g [.int .i64 1, .int .i64 r1, .int .i64 0, .int .i64 3, .int .i64 r0, .int .i64 u2] ∧ Below w.heap.size w w' := by
  have hbs : b < w.heap.size := World.block_lt_of_cell? w _ x0
  have hl1 : b < w.heap.size + 1 := by omega
  have hl2 : b < w.heap.size + 1 + 1 := by omega
  have hl3 : b < w.heap.size + 1 + 1 + 1 := by omega
  have hl4 : b < w.heap.size + 1 + 1 + 1 + 1 := by omega
  have hl5 : b < w.heap.size + 1 + 1 + 1 + 1 + 1 := by omega
  have hl6 : b < w.heap.size + 1 + 1 + 1 + 1 + 1 + 1 := by omega
  have nb0 : b ≠ w.heap.size := by omega
  have nb1 : b ≠ w.heap.size + 1 := by omega
  have nb2 : b ≠ w.heap.size + 1 + 1 := by omega
  have nb3 : b ≠ w.heap.size + 1 + 1 + 1 := by omega
  have nb4 : b ≠ w.heap.size + 1 + 1 + 1 + 1 := by omega
  have nb5 : b ≠ w.heap.size + 1 + 1 + 1 + 1 + 1 := by omega
  have nb6 : b ≠ w.heap.size + 1 + 1 + 1 + 1 + 1 + 1 := by omega
  go_enter Try.func11, Try.ntmps11
  go_wp2_with fail
  refine wp_loop_rounds 4 ?_
  rw [rounds_succ]
  go_wp2_with (first | (go_at_call 26; go_must ((refine (zz r0 r1 u2 lo_r0 hi_r0 lo_r1 hi_r1 lo_u2 hi_u2 _).mono ?_); rintro e w1 ⟨rfl, hb1⟩; have B1 : Below w.heap.size w w1 := chain (by (repeat' (first | (with_reducible exact Below.refl _ _) | (with_reducible assumption) | (with_reducible refine Below.alloc ?_ ?_ _) | (with_reducible refine below_drewN' ?_ _) | (with_reducible refine Below.drew ?_) | (with_reducible refine Below.setCell ?_ ?_ _) | go_size))) hb1; have S1 := B1.size; clear hb1)) | (go_at_call 27; go_must ((refine (listed_rm r1 r0 u2 (by omega) (by omega) (by omega) (by omega) (by omega) (by omega) _).mono ?_); rintro e w2 ⟨g, cap', rfl, hrow, hb2⟩; have B2 : Below w.heap.size w w2 := chain (by (repeat' (first | (with_reducible exact Below.refl _ _) | (with_reducible assumption) | (with_reducible refine Below.alloc ?_ ?_ _) | (with_reducible refine below_drewN' ?_ _) | (with_reducible refine Below.drew ?_) | (with_reducible refine Below.setCell ?_ ?_ _) | go_size))) hb2; clear hb2)) | go_in)
  rw [rounds_succ]
  go_wp2_with (first | (go_at_call 26; go_must ((refine (zz r0 r1 u2 lo_r0 hi_r0 lo_r1 hi_r1 lo_u2 hi_u2 _).mono ?_); rintro e w1 ⟨rfl, hb1⟩; have B1 : Below w.heap.size w w1 := chain (by (repeat' (first | (with_reducible exact Below.refl _ _) | (with_reducible assumption) | (with_reducible refine Below.alloc ?_ ?_ _) | (with_reducible refine below_drewN' ?_ _) | (with_reducible refine Below.drew ?_) | (with_reducible refine Below.setCell ?_ ?_ _) | go_size))) hb1; have S1 := B1.size; clear hb1)) | (go_at_call 27; go_must ((refine (listed_rm r1 r0 u2 (by omega) (by omega) (by omega) (by omega) (by omega) (by omega) _).mono ?_); rintro e w2 ⟨g, cap', rfl, hrow, hb2⟩; have B2 : Below w.heap.size w w2 := chain (by (repeat' (first | (with_reducible exact Below.refl _ _) | (with_reducible assumption) | (with_reducible refine Below.alloc ?_ ?_ _) | (with_reducible refine below_drewN' ?_ _) | (with_reducible refine Below.drew ?_) | (with_reducible refine Below.setCell ?_ ?_ _) | go_size))) hb2; clear hb2)) | go_in)
  rw [rounds_succ]
  go_wp2_with (first | (go_at_call 26; go_must ((refine (zz r0 r1 u2 lo_r0 hi_r0 lo_r1 hi_r1 lo_u2 hi_u2 _).mono ?_); rintro e w1 ⟨rfl, hb1⟩; have B1 : Below w.heap.size w w1 := chain (by (repeat' (first | (with_reducible exact Below.refl _ _) | (with_reducible assumption) | (with_reducible refine Below.alloc ?_ ?_ _) | (with_reducible refine below_drewN' ?_ _) | (with_reducible refine Below.drew ?_) | (with_reducible refine Below.setCell ?_ ?_ _) | go_size))) hb1; have S1 := B1.size; clear hb1)) | (go_at_call 27; go_must ((refine (listed_rm r1 r0 u2 (by omega) (by omega) (by omega) (by omega) (by omega) (by omega) _).mono ?_); rintro e w2 ⟨g, cap', rfl, hrow, hb2⟩; have B2 : Below w.heap.size w w2 := chain (by (repeat' (first | (with_reducible exact Below.refl _ _) | (with_reducible assumption) | (with_reducible refine Below.alloc ?_ ?_ _) | (with_reducible refine below_drewN' ?_ _) | (with_reducible refine Below.drew ?_) | (with_reducible refine Below.setCell ?_ ?_ _) | go_size))) hb2; clear hb2)) | go_in)
  rw [rounds_succ]
  go_wp2_with (first | (go_at_call 26; go_must ((refine (zz r0 r1 u2 lo_r0 hi_r0 lo_r1 hi_r1 lo_u2 hi_u2 _).mono ?_); rintro e w1 ⟨rfl, hb1⟩; have B1 : Below w.heap.size w w1 := chain (by (repeat' (first | (with_reducible exact Below.refl _ _) | (with_reducible assumption) | (with_reducible refine Below.alloc ?_ ?_ _) | (with_reducible refine below_drewN' ?_ _) | (with_reducible refine Below.drew ?_) | (with_reducible refine Below.setCell ?_ ?_ _) | go_size))) hb1; have S1 := B1.size; clear hb1)) | (go_at_call 27; go_must ((refine (listed_rm r1 r0 u2 (by omega) (by omega) (by omega) (by omega) (by omega) (by omega) _).mono ?_); rintro e w2 ⟨g, cap', rfl, hrow, hb2⟩; have B2 : Below w.heap.size w w2 := chain (by (repeat' (first | (with_reducible exact Below.refl _ _) | (with_reducible assumption) | (with_reducible refine Below.alloc ?_ ?_ _) | (with_reducible refine below_drewN' ?_ _) | (with_reducible refine Below.drew ?_) | (with_reducible refine Below.setCell ?_ ?_ _) | go_size))) hb2; clear hb2)) | go_in)
  go_ret2
  exact ⟨g, cap', rfl, hrow, B2⟩
set_option maxRecDepth 100000 in
set_option maxHeartbeats 4000000 in
theorem main (n : Nat) (hn : n < 4294967296) (w : World) : Calls Try.prog 8 #[.int .u32 (n : Int)] w fun e w' => e = .returned (.bool true) ∧ Below w.heap.size w w' := by
  obtain ⟨r0, ⟨lo_r0, hi_r0⟩, g0⟩ := num0 n hn
  have a0 := arg0 r0 n lo_r0 hi_r0 g0
  clear g0
  obtain ⟨r1, ⟨lo_r1, hi_r1⟩, g1⟩ := num1 n hn
  have a1 := arg1 r1 n lo_r1 hi_r1 g1
  clear g1
  obtain ⟨u2, ⟨lo_u2, hi_u2⟩, g2⟩ := num2 n hn
  have a2 := arg2 u2 n lo_u2 hi_u2 g2
  clear g2
  go_enter Try.func8, Try.ntmps8
  go_wp2_with (first | (go_at_call 18; ((with_reducible refine (a0 _).mono ?_); rintro e w1 ⟨rfl, hb1⟩; have B1 : Below w.heap.size w w1 := chain (by (repeat' (first | (with_reducible exact Below.refl _ _) | (with_reducible assumption) | (with_reducible refine Below.alloc ?_ ?_ _) | (with_reducible refine below_drewN' ?_ _) | (with_reducible refine Below.drew ?_) | (with_reducible refine Below.setCell ?_ ?_ _) | go_size))) hb1; have S1 := B1.size; clear hb1)) | (go_at_call 10; ((with_reducible refine (a1 _).mono ?_); rintro e w2 ⟨rfl, hb2⟩; have B2 : Below w.heap.size w w2 := chain (by (repeat' (first | (with_reducible exact Below.refl _ _) | (with_reducible assumption) | (with_reducible refine Below.alloc ?_ ?_ _) | (with_reducible refine below_drewN' ?_ _) | (with_reducible refine Below.drew ?_) | (with_reducible refine Below.setCell ?_ ?_ _) | go_size))) hb2; have S2 := B2.size; clear hb2)) | (go_at_call 19; ((with_reducible refine (a2 _).mono ?_); rintro e w3 ⟨rfl, hb3⟩; have B3 : Below w.heap.size w w3 := chain (by (repeat' (first | (with_reducible exact Below.refl _ _) | (with_reducible assumption) | (with_reducible refine Below.alloc ?_ ?_ _) | (with_reducible refine below_drewN' ?_ _) | (with_reducible refine Below.drew ?_) | (with_reducible refine Below.setCell ?_ ?_ _) | go_size))) hb3; have S3 := B3.size; clear hb3)) | (go_at_call 11; go_must ((refine (turned r0 r1 u2 lo_r0 hi_r0 lo_r1 hi_r1 lo_u2 hi_u2 _ _ _ (by simp) (by simp) (by simp) (by simp) (by simp) (by simp) (by simp) (by simp) (by simp)).mono ?_); rintro e w4 ⟨g, cap', rfl, hrow, hb4⟩; have x0 : w4.cell? ⟨w3.heap.size, 0, none⟩ = some (.int .i64 1) := keepc hb4 (by simp); have x1 : w4.cell? ⟨w3.heap.size, 1, none⟩ = some (.int .i64 r0) := keepc hb4 (by simp); have x2 : w4.cell? ⟨w3.heap.size, 2, none⟩ = some (.int .i64 0) := keepc hb4 (by simp); have x3 : w4.cell? ⟨w3.heap.size, 3, none⟩ = some (.int .i64 1) := keepc hb4 (by simp); have x4 : w4.cell? ⟨w3.heap.size, 4, none⟩ = some (.int .i64 r1) := keepc hb4 (by simp); have x5 : w4.cell? ⟨w3.heap.size, 5, none⟩ = some (.int .i64 0) := keepc hb4 (by simp); have x6 : w4.cell? ⟨w3.heap.size, 6, none⟩ = some (.int .i64 5) := keepc hb4 (by simp); have x7 : w4.cell? ⟨w3.heap.size, 7, none⟩ = some (.int .i64 0) := keepc hb4 (by simp); have x8 : w4.cell? ⟨w3.heap.size, 8, none⟩ = some (.int .i64 u2) := keepc hb4 (by simp); have ya : w4.cell? ⟨g, 0, none⟩ = some (.int .i64 1) := hrow 0 _ rfl; have yb : w4.cell? ⟨g, 1, none⟩ = some (.int .i64 r1) := hrow 1 _ rfl; have yc : w4.cell? ⟨g, 2, none⟩ = some (.int .i64 0) := hrow 2 _ rfl; have yd : w4.cell? ⟨g, 3, none⟩ = some (.int .i64 3) := hrow 3 _ rfl; have ye : w4.cell? ⟨g, 4, none⟩ = some (.int .i64 r0) := hrow 4 _ rfl; have yf : w4.cell? ⟨g, 5, none⟩ = some (.int .i64 u2) := hrow 5 _ rfl; clear hrow; have B4 : Below w.heap.size w w4 := chain (by (repeat' (first | (with_reducible exact Below.refl _ _) | (with_reducible assumption) | (with_reducible refine Below.alloc ?_ ?_ _) | (with_reducible refine below_drewN' ?_ _) | (with_reducible refine Below.drew ?_) | (with_reducible refine Below.setCell ?_ ?_ _) | go_size))) hb4; have S4 := B4.size; clear hb4)))
  go_region_held3 (fun w' => w'.cell? ⟨w3.heap.size, 0, none⟩ = some (.int .i64 1) ∧ w'.cell? ⟨w3.heap.size, 1, none⟩ = some (.int .i64 r0) ∧ w'.cell? ⟨w3.heap.size, 2, none⟩ = some (.int .i64 0) ∧ w'.cell? ⟨w3.heap.size, 3, none⟩ = some (.int .i64 1) ∧ w'.cell? ⟨w3.heap.size, 4, none⟩ = some (.int .i64 r1) ∧ w'.cell? ⟨w3.heap.size, 5, none⟩ = some (.int .i64 0) ∧ w'.cell? ⟨w3.heap.size, 6, none⟩ = some (.int .i64 5) ∧ w'.cell? ⟨w3.heap.size, 7, none⟩ = some (.int .i64 0) ∧ w'.cell? ⟨w3.heap.size, 8, none⟩ = some (.int .i64 u2) ∧ w'.cell? ⟨g, 0, none⟩ = some (.int .i64 1) ∧ w'.cell? ⟨g, 1, none⟩ = some (.int .i64 r1) ∧ w'.cell? ⟨g, 2, none⟩ = some (.int .i64 0) ∧ w'.cell? ⟨g, 3, none⟩ = some (.int .i64 3) ∧ w'.cell? ⟨g, 4, none⟩ = some (.int .i64 r0) ∧ w'.cell? ⟨g, 5, none⟩ = some (.int .i64 u2)) (go_keep)
    (first | (go_at_call 12; refine (there3 _ _ 1 1 5 _ (by decide) (by decide) (by decide) (by simp [*]) (by simp [*]) (by simp [*])).mono ?_; rintro e w' ⟨rfl, rfl⟩) | (go_at_call 13; refine (likeall2 _ _ _ _ 1 r1 0 3 r0 u2 1 r1 0 3 r0 u2 _ (by first | assumption | (simp [*]; done)) (by first | assumption | (simp [*]; done)) (by first | assumption | (simp [*]; done)) (by first | assumption | (simp [*]; done)) (by first | assumption | (simp [*]; done)) (by first | assumption | (simp [*]; done)) (by first | assumption | (simp [*]; done)) (by first | assumption | (simp [*]; done)) (by first | assumption | (simp [*]; done)) (by first | assumption | (simp [*]; done)) (by first | assumption | (simp [*]; done)) (by first | assumption | (simp [*]; done)) (like_reg r1) (like_mem r0 u2)).mono ?_; rintro e w' ⟨rfl, hb9⟩; have nx0 : w'.cell? ⟨w3.heap.size, 0, none⟩ = some (.int .i64 1) := keepc hb9 (by simp [*]); have nx1 : w'.cell? ⟨w3.heap.size, 1, none⟩ = some (.int .i64 r0) := keepc hb9 (by simp [*]); have nx2 : w'.cell? ⟨w3.heap.size, 2, none⟩ = some (.int .i64 0) := keepc hb9 (by simp [*]); have nx3 : w'.cell? ⟨w3.heap.size, 3, none⟩ = some (.int .i64 1) := keepc hb9 (by simp [*]); have nx4 : w'.cell? ⟨w3.heap.size, 4, none⟩ = some (.int .i64 r1) := keepc hb9 (by simp [*]); have nx5 : w'.cell? ⟨w3.heap.size, 5, none⟩ = some (.int .i64 0) := keepc hb9 (by simp [*]); have nx6 : w'.cell? ⟨w3.heap.size, 6, none⟩ = some (.int .i64 5) := keepc hb9 (by simp [*]); have nx7 : w'.cell? ⟨w3.heap.size, 7, none⟩ = some (.int .i64 0) := keepc hb9 (by simp [*]); have nx8 : w'.cell? ⟨w3.heap.size, 8, none⟩ = some (.int .i64 u2) := keepc hb9 (by simp [*]); have nya : w'.cell? ⟨g, 0, none⟩ = some (.int .i64 1) := keepc hb9 (by simp [*]); have nyb : w'.cell? ⟨g, 1, none⟩ = some (.int .i64 r1) := keepc hb9 (by simp [*]); have nyc : w'.cell? ⟨g, 2, none⟩ = some (.int .i64 0) := keepc hb9 (by simp [*]); have nyd : w'.cell? ⟨g, 3, none⟩ = some (.int .i64 3) := keepc hb9 (by simp [*]); have nye : w'.cell? ⟨g, 4, none⟩ = some (.int .i64 r0) := keepc hb9 (by simp [*]); have nyf : w'.cell? ⟨g, 5, none⟩ = some (.int .i64 u2) := keepc hb9 (by simp [*])) | go_in)
  go_wp2_with fail
  go_ret
  exact ⟨rfl, chain (by (repeat' (first | (with_reducible exact Below.refl _ _) | (with_reducible assumption) | (with_reducible refine Below.alloc ?_ ?_ _) | (with_reducible refine below_drewN' ?_ _) | (with_reducible refine Below.drew ?_) | (with_reducible refine Below.setCell ?_ ?_ _) | go_size))) hb9⟩
theorem walk (a0 : Int) (w0 : (Lit.int .u32 a0).wf = true) (w : World) :
    Calls Try.prog 8 #[.int .u32 a0] w fun e w' => e = .returned (.bool true) ∧ Below w.heap.size w w' := by
  obtain ⟨b0, b1⟩ := bounds_u32 w0
  obtain ⟨n, rfl⟩ := Int.eq_ofNat_of_zero_le b0
  have hn : n < 4294967296 := by omega
  exact main n hn w

set_option maxRecDepth 100000 in
theorem lifted (os : Os) (started : os.Started) (H : Type) (enc : TypeId × Value → H) :
    ReturnsInHanded {} Try.checked os 8 .any (Rows.fnConvertSdSpec.pre6 enc Try.prog Try.f8 Rows.fnConvertSdRow.domain false) (Rows.fnConvertSdSpec.post enc Try.prog Try.f8 false true false false) := by
  refine returnsInHanded_of_change (C := Try.checked) own started (by kernel_rfl) Try.func8
    (ChangeSpec.witness6 (enc := enc) (C := Try.checked) false ⟨#[], #[.int .u32 0], []⟩ 8 (by kernel_rfl) (by kernel_rfl) (by kernel_rfl) (by kernel_rfl)) ?_
  intro W base args ds gs before hval0 hW hcnd _
  have hval : ∀ (j : Nat) t v, Try.f8.params[j]? = some t → args[j]? = some v → Value.okWide Try.prog W .any base t v := hval0
  have hW' := hW
  obtain ⟨p, q, hA0, hV, rfl, hfz, hnd⟩ := hW
  have hA : DataW.TrodAll enc Try.prog W 0 (fun _ => true) true Try.f8.params.toList args.toList ds p := hA0
  rw [Try.params8] at hA hval
  obtain ⟨v0, vs0, d0, ds0, p0, q0, hargs, rfl, rfl, h0, r0⟩ := trodAll_cons hA
  obtain ⟨rfl, rfl, rfl⟩ := trodAll_nil r0
  obtain rfl : args = #[v0] := by cases args; simp_all
  obtain ⟨rfl, rfl⟩ := trodVars_none hV
  obtain ⟨a0, rfl, rfl, rfl, w0⟩ := open_int Try.underlying22 (hval 0 22 v0 rfl rfl) h0
  clear hA0 hval0
  simp only [List.append_nil] at hW'
  refine (walk a0 w0 W).mono fun e W' ⟨he, hg⟩ => ?_
  subst he
  exact ⟨_, rfl, _, _, _, [], [], [], hW', (trodAll_cons_mk (shut_bool Try.underlying4 _) trodAll_mk0), (trodAll_cons_mk (shut_int Try.underlying22 w0) trodAll_mk0), rfl, hg.frame _, fun h => by cases h⟩

theorem over : Rows.fnConvertSdRow.holds Try.pinned (OpenSpec.ofChange Rows.fnConvertSdSpec) :=
  OpenClaim.holds_of_wide 8 Try.f8 rfl rfl rfl rfl rfl rfl rfl ⟨rfl, rfl, rfl, rfl, rfl⟩ rfl rfl rfl rfl rfl (by kernel_rfl) Try.func8 (by kernel_rfl)
    (of_decide_eq_true (by kernel_rfl)) (by unfold Func.isWrapper; first | (rw [if_pos (by decide +kernel)]; kernel_rfl) | (rw [if_neg (by decide +kernel)]; exact ⟨rfl, rfl⟩))
    (fun os started H enc _ => lifted os started H enc)

theorem proved : Rows.FnConvertSdSaid :=
  over
#print axioms proved
end Go.Proofs.Ytjbbbjnhbdohoab.fnConvertSd
