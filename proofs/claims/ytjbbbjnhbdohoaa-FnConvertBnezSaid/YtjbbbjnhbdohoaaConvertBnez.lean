/-
  'laws.FnConvertBnez' returns true for every word of 32 bits. No condition.
-/
import Derived.Test.YtjbbbjnhbdohoaaRows
import Derived.Test.YtjbbbjnhbdohoaaQ
import Derived.Test.YtjbbbjnhbdohoaaBits
import Derived.Test.YtjbbbjnhbdohoaaFacts
import Derived.Test.YtjbbbjnhbdohoaaConv
import Derived.WalkKit
import Derived.WalkLawsBesides
import Derived.WalkSpells
import Derived.ProofKit
import Derived.OpenShut
import Derived.Handy
import Derived.RegionTactic
import Derived.ChangeAlike
import Derived.BigRegion
import Derived.Deep.RegionHeld3
import Derived.Deep.DeepMust
namespace Go.Proofs.Ytjbbbjnhbdohoaa.fnConvertBnez
open Go Go.ChangeShapes Go.WideShapes Go.ChangeAt Go.RowKit Conv
set_option linter.unusedVariables false
theorem own : ownKnob Try.prog.godebug = none := by kernel_rfl
theorem mixed : Try.prog.follows .mixedOrders = true := by kernel_rfl

theorem dec0 (n : Nat) (hn : n < 4294967296) : Q.Gives Try.prog 44 #[.int .u16 34, .int .u32 (n : Int)] (.iface 50 (.int .u16 (8 + ((n / 2 ^ 7 % 2 ^ 3 : Nat) : Int)))) := by
  have e : Q.run Try.prog 4 3 [] 44 #[.int .u16 34, .int .u32 (n : Int)] = some ((Value.iface 50 (.int .u16 (IntKind.u16.wrap (8 + (IntKind.u16.wrap (Ev.an (Ev.shr (n : Int) 7) 7)))))), []) := by kernel_rfl
  have r : (IntKind.u16.wrap (8 + (IntKind.u16.wrap (Ev.an (Ev.shr (n : Int) 7) 7)))) = ((8 + n / 2 ^ 7 % 2 ^ 3 : Nat) : Int) := Ev.reg n 7 3 7 8 (by decide) (by decide) hn (by decide)
  rw [r] at e
  refine Q.Gives.eq (Q.gives mixed e trivial) ?_
  have z : ((8 + n / 2 ^ 7 % 2 ^ 3 : Nat) : Int) = 8 + ((n / 2 ^ 7 % 2 ^ 3 : Nat) : Int) := by omega
  rw [z]
theorem num0 (n : Nat) (hn : n < 4294967296) : ∃ r0 : Int, (0 ≤ r0 ∧ r0 < 65536) ∧ Q.Gives Try.prog 44 #[.int .u16 34, .int .u32 (n : Int)] (.iface 50 (.int .u16 r0)) :=
  ⟨(8 + ((n / 2 ^ 7 % 2 ^ 3 : Nat) : Int)), ⟨by omega, by omega⟩, dec0 n hn⟩
set_option maxRecDepth 100000 in
theorem arg0 (r0 : Int) (n : Nat) (h0 : 0 ≤ r0) (h1 : r0 < 65536) (g : Q.Gives Try.prog 44 #[.int .u16 34, .int .u32 (n : Int)] (.iface 50 (.int .u16 r0))) (w : World) : Calls Try.prog 33 #[.int .u32 (n : Int)] w fun e w' => e = .returned (.agg #[.int .i64 1, .int .i64 r0, .int .i64 0]) ∧ Below w.heap.size w w' := by
  have d : ∀ w, Calls _ _ _ w _ := g
  clear g
  go_enter Try.func33, Try.ntmps33
  go_wp2_with (first | (go_at_call 44; ((with_reducible refine (d _).mono ?_); rintro e w' ⟨rfl, m, rfl⟩)) | go_in)
  go_returns
  exact ⟨rfl, (by (repeat' (first | (with_reducible exact Below.refl _ _) | (with_reducible assumption) | (with_reducible refine Below.alloc ?_ ?_ _) | (with_reducible refine below_drewN' ?_ _) | (with_reducible refine Below.drew ?_) | (with_reducible refine Below.setCell ?_ ?_ _) | go_size)))⟩
theorem any0 (n : Nat) (hn : n < 4294967296) (w : World) : Calls Try.prog 33 #[.int .u32 (n : Int)] w fun e w' => ∃ k r t : Int, e = .returned (.agg #[.int .i64 k, .int .i64 r, .int .i64 t]) ∧ Below w.heap.size w w' := by
  obtain ⟨x, ⟨h0, h1⟩, g⟩ := num0 n hn
  exact (arg0 x n h0 h1 g w).mono fun e w' h => ⟨_, _, _, h⟩
def U1 (n : Nat) : Nat := n / 2 ^ 2 % 2 ^ 1 * 2 ^ 5 + n / 2 ^ 3 % 2 ^ 2 * 2 ^ 1 + n / 2 ^ 5 % 2 ^ 2 * 2 ^ 6 + n / 2 ^ 12 % 2 ^ 1 * 2 ^ 8 + n / 2 ^ 10 % 2 ^ 2 * 2 ^ 3
theorem U1_lt (n : Nat) : U1 n < 2 ^ 9 := by unfold U1; omega
theorem join1 (f1 f2 f3 f4 f5 : Nat) (h1 : f1 < 2 ^ 1) (h2 : f2 < 2 ^ 2) (h3 : f3 < 2 ^ 2) (h4 : f4 < 2 ^ 1) (h5 : f5 < 2 ^ 2) :
    (Ev.o (Ev.o (Ev.o (Ev.o ((f1 * 2 ^ 5 : Nat) : Int) ((f2 * 2 ^ 1 : Nat) : Int)) ((f3 * 2 ^ 6 : Nat) : Int)) ((f4 * 2 ^ 8 : Nat) : Int)) ((f5 * 2 ^ 3 : Nat) : Int)) = ((f1 * 2 ^ 5 + f2 * 2 ^ 1 + f3 * 2 ^ 6 + f4 * 2 ^ 8 + f5 * 2 ^ 3 : Nat) : Int) := by
  rw [Ev.o_field (f1 * 2 ^ 5) f2 1 2 h2 (by omega) (by decide) (by omega),
    Ev.o_field (f1 * 2 ^ 5 + f2 * 2 ^ 1) f3 6 2 h3 (by omega) (by decide) (by omega),
    Ev.o_field (f1 * 2 ^ 5 + f2 * 2 ^ 1 + f3 * 2 ^ 6) f4 8 1 h4 (by omega) (by decide) (by omega),
    Ev.o_field (f1 * 2 ^ 5 + f2 * 2 ^ 1 + f3 * 2 ^ 6 + f4 * 2 ^ 8) f5 3 2 h5 (by omega) (by decide) (by omega)]
theorem imm1 (n : Nat) (hn : n < 4294967296) : (Ev.o (Ev.o (Ev.o (Ev.o (Ev.shl (Ev.shr (Ev.shl (n : Int) 29) 31) 5) (Ev.shl (Ev.shr (Ev.shl (n : Int) 27) 30) 1)) (Ev.shl (Ev.shr (Ev.shl (n : Int) 25) 30) 6)) (Ev.shl (Ev.shr (Ev.shl (n : Int) 19) 31) 8)) (Ev.shl (Ev.shr (Ev.shl (n : Int) 20) 30) 3)) = ((U1 n : Nat) : Int) := by
  have t1 : (Ev.shl (Ev.shr (Ev.shl (n : Int) 29) 31) 5) = ((n / 2 ^ 2 % 2 ^ 1 * 2 ^ 5 : Nat) : Int) := Ev.T3 n 29 31 5 (by decide) (by decide) (by decide)
  have t2 : (Ev.shl (Ev.shr (Ev.shl (n : Int) 27) 30) 1) = ((n / 2 ^ 3 % 2 ^ 2 * 2 ^ 1 : Nat) : Int) := Ev.T3 n 27 30 1 (by decide) (by decide) (by decide)
  have t3 : (Ev.shl (Ev.shr (Ev.shl (n : Int) 25) 30) 6) = ((n / 2 ^ 5 % 2 ^ 2 * 2 ^ 6 : Nat) : Int) := Ev.T3 n 25 30 6 (by decide) (by decide) (by decide)
  have t4 : (Ev.shl (Ev.shr (Ev.shl (n : Int) 19) 31) 8) = ((n / 2 ^ 12 % 2 ^ 1 * 2 ^ 8 : Nat) : Int) := Ev.T3 n 19 31 8 (by decide) (by decide) (by decide)
  have t5 : (Ev.shl (Ev.shr (Ev.shl (n : Int) 20) 30) 3) = ((n / 2 ^ 10 % 2 ^ 2 * 2 ^ 3 : Nat) : Int) := Ev.T3 n 20 30 3 (by decide) (by decide) (by decide)
  rw [t1, t2, t3, t4, t5]
  exact join1 _ _ _ _ _ (Nat.mod_lt _ (by decide)) (Nat.mod_lt _ (by decide)) (Nat.mod_lt _ (by decide)) (Nat.mod_lt _ (by decide)) (Nat.mod_lt _ (by decide))
theorem dec1 (n : Nat) (hn : n < 4294967296) : Q.Gives Try.prog 44 #[.int .u16 55, .int .u32 (n : Int)] (.iface 52 (.agg #[.int .i32 (Ev.sgn 9 (U1 n)), .bool true, .int .u8 9])) := by
  have t := Ev.dec_test (U1 n) 9 (by decide) (U1_lt n)
  by_cases hs : 2 ^ (9 - 1) ≤ U1 n
  · have e : Q.run Try.prog 4 3 [(55, true)] 44 #[.int .u16 55, .int .u32 (n : Int)] = some (Value.iface 52 (.agg #[.int .i32 (IntKind.i32.wrap (Ev.o (Ev.o (Ev.o (Ev.o (Ev.o (Ev.shl (Ev.shr (Ev.shl (n : Int) 29) 31) 5) (Ev.shl (Ev.shr (Ev.shl (n : Int) 27) 30) 1)) (Ev.shl (Ev.shr (Ev.shl (n : Int) 25) 30) 6)) (Ev.shl (Ev.shr (Ev.shl (n : Int) 19) 31) 8)) (Ev.shl (Ev.shr (Ev.shl (n : Int) 20) 30) 3)) 4294966784)), .bool true, .int .u8 9]), [((Ev.shr (Ev.o (Ev.o (Ev.o (Ev.o (Ev.shl (Ev.shr (Ev.shl (n : Int) 29) 31) 5) (Ev.shl (Ev.shr (Ev.shl (n : Int) 27) 30) 1)) (Ev.shl (Ev.shr (Ev.shl (n : Int) 25) 30) 6)) (Ev.shl (Ev.shr (Ev.shl (n : Int) 19) 31) 8)) (Ev.shl (Ev.shr (Ev.shl (n : Int) 20) 30) 3)) 8 == 1), true)]) := by kernel_rfl
    rw [imm1 n hn] at e
    rw [show (IntKind.i32.wrap (Ev.o ((U1 n : Nat) : Int) 4294966784)) = Ev.sgn 9 (U1 n) from Ev.dec_neg (U1 n) 9 4294966784 (by decide) (by decide) (U1_lt n) (by decide) hs] at e
    exact Q.gives mixed e ⟨t.trans (decide_eq_true hs), trivial⟩
  · have e : Q.run Try.prog 4 3 [(55, false)] 44 #[.int .u16 55, .int .u32 (n : Int)] = some (Value.iface 52 (.agg #[.int .i32 (IntKind.i32.wrap (Ev.o (Ev.o (Ev.o (Ev.o (Ev.shl (Ev.shr (Ev.shl (n : Int) 29) 31) 5) (Ev.shl (Ev.shr (Ev.shl (n : Int) 27) 30) 1)) (Ev.shl (Ev.shr (Ev.shl (n : Int) 25) 30) 6)) (Ev.shl (Ev.shr (Ev.shl (n : Int) 19) 31) 8)) (Ev.shl (Ev.shr (Ev.shl (n : Int) 20) 30) 3))), .bool true, .int .u8 9]), [((Ev.shr (Ev.o (Ev.o (Ev.o (Ev.o (Ev.shl (Ev.shr (Ev.shl (n : Int) 29) 31) 5) (Ev.shl (Ev.shr (Ev.shl (n : Int) 27) 30) 1)) (Ev.shl (Ev.shr (Ev.shl (n : Int) 25) 30) 6)) (Ev.shl (Ev.shr (Ev.shl (n : Int) 19) 31) 8)) (Ev.shl (Ev.shr (Ev.shl (n : Int) 20) 30) 3)) 8 == 1), false)]) := by kernel_rfl
    rw [imm1 n hn] at e
    rw [show (IntKind.i32.wrap ((U1 n : Nat) : Int)) = Ev.sgn 9 (U1 n) from Ev.dec_pos (U1 n) 9 (by decide) (by decide) (U1_lt n) hs] at e
    exact Q.gives mixed e ⟨t.trans (decide_eq_false hs), trivial⟩
theorem num1 (n : Nat) (hn : n < 4294967296) : ∃ s1 : Int, (-2147483648 ≤ s1 ∧ s1 < 2147483648) ∧ Q.Gives Try.prog 44 #[.int .u16 55, .int .u32 (n : Int)] (.iface 52 (.agg #[.int .i32 s1, .bool true, .int .u8 9])) :=
  ⟨(Ev.sgn 9 (U1 n)), Ev.sgn_lo (U1 n) 9 (by decide) (by decide) (U1_lt n), dec1 n hn⟩
set_option maxRecDepth 100000 in
theorem arg1 (s1 : Int) (n : Nat) (h0 : -2147483648 ≤ s1) (h1 : s1 < 2147483648) (g : Q.Gives Try.prog 44 #[.int .u16 55, .int .u32 (n : Int)] (.iface 52 (.agg #[.int .i32 s1, .bool true, .int .u8 9]))) (w : World) : Calls Try.prog 34 #[.int .u32 (n : Int)] w fun e w' => e = .returned (.agg #[.int .i64 4, .int .i64 0, .int .i64 s1]) ∧ Below w.heap.size w w' := by
  have d : ∀ w, Calls _ _ _ w _ := g
  clear g
  go_enter Try.func34, Try.ntmps34
  go_wp2_with (first | (go_at_call 44; ((with_reducible refine (d _).mono ?_); rintro e w' ⟨rfl, m, rfl⟩)) | go_in)
  go_returns
  exact ⟨rfl, (by (repeat' (first | (with_reducible exact Below.refl _ _) | (with_reducible assumption) | (with_reducible refine Below.alloc ?_ ?_ _) | (with_reducible refine below_drewN' ?_ _) | (with_reducible refine Below.drew ?_) | (with_reducible refine Below.setCell ?_ ?_ _) | go_size)))⟩
theorem any1 (n : Nat) (hn : n < 4294967296) (w : World) : Calls Try.prog 34 #[.int .u32 (n : Int)] w fun e w' => ∃ k r t : Int, e = .returned (.agg #[.int .i64 k, .int .i64 r, .int .i64 t]) ∧ Below w.heap.size w w' := by
  obtain ⟨x, ⟨h0, h1⟩, g⟩ := num1 n hn
  exact (arg1 x n h0 h1 g w).mono fun e w' h => ⟨_, _, _, h⟩
set_option maxRecDepth 100000 in
set_option maxHeartbeats 4000000 in
theorem zz (r0 s1 : Int) (lo_r0 : 0 ≤ r0) (hi_r0 : r0 < 65536) (lo_s1 : -2147483648 ≤ s1) (hi_s1 : s1 < 2147483648) (w : World) : Calls Try.prog 40 #[.int .u16 126, .agg #[(.iface 50 (.int .u16 r0)), (.iface 52 (.agg #[.int .i32 s1, .bool true, .int .u8 12])), .nilIface, .nilIface, .nilIface, .nilIface]] w fun e w' => e = .returned (.tuple #[.int .u16 93, .agg #[(.iface 50 (.int .u16 r0)), (.iface 50 (.int .u16 0)), (.iface 52 (.agg #[.int .i32 s1, .bool true, .int .u8 13])), .nilIface, .nilIface, .nilIface]]) ∧ Below w.heap.size w w' := by
  go_enter Try.func40, Try.ntmps40
  go_wp2
  all_goals (try go_region)
  all_goals go_wp2
  all_goals (try go_region)
  all_goals go_wp2
  all_goals go_returns
  all_goals (refine ⟨rfl, ?_⟩)
  all_goals (repeat' (first | (with_reducible exact Below.refl _ _) | (with_reducible assumption) | (with_reducible refine Below.alloc ?_ ?_ _) | (with_reducible refine below_drewN' ?_ _) | (with_reducible refine Below.drew ?_) | (with_reducible refine Below.setCell ?_ ?_ _) | go_size))
set_option maxRecDepth 100000 in
set_option maxHeartbeats 1000000 in
theorem turned (r0 s1 : Int) (lo_r0 : 0 ≤ r0) (hi_r0 : r0 < 65536) (lo_s1 : -2147483648 ≤ s1) (hi_s1 : s1 < 2147483648) (b cap : Nat) (w : World) (x0 : w.cell? ⟨b, 0, none⟩ = some (.int .i64 1)) (x1 : w.cell? ⟨b, 1, none⟩ = some (.int .i64 r0)) (x2 : w.cell? ⟨b, 2, none⟩ = some (.int .i64 0)) (x3 : w.cell? ⟨b, 3, none⟩ = some (.int .i64 4)) (x4 : w.cell? ⟨b, 4, none⟩ = some (.int .i64 0)) (x5 : w.cell? ⟨b, 5, none⟩ = some (.int .i64 s1)) : Calls Try.prog 15 #[.int .i64 126, .slice (some ⟨b, 0, none⟩) 2 cap] w
    fun e w' => ∃ g cap', e = .returned (.tuple #[.int .i64 93, .slice (some ⟨g, 0, none⟩) 3 cap']) ∧ RowAt w' g [.int .i64 1, .int .i64 r0, .int .i64 0, .int .i64 1, .int .i64 0, .int .i64 0, .int .i64 4, .int .i64 0, .int .i64 s1] ∧ Below w.heap.size w w' := by
  have hbs : b < w.heap.size := World.block_lt_of_cell? w _ x0
  have hl1 : b < w.heap.size + 1 := by omega
  have hl2 : b < w.heap.size + 1 + 1 := by omega
  have hl3 : b < w.heap.size + 1 + 1 + 1 := by omega
  have hl4 : b < w.heap.size + 1 + 1 + 1 + 1 := by omega
  have hl5 : b < w.heap.size + 1 + 1 + 1 + 1 + 1 := by omega
  have hl6 : b < w.heap.size + 1 + 1 + 1 + 1 + 1 + 1 := by omega
  have nb0 : b ≠ w.heap.size := by omega
  have nb1 : b ≠ w.heap.size + 1 := by omega
  have nb2 : b ≠ w.heap.size + 1 + 1 := by omega
  have nb3 : b ≠ w.heap.size + 1 + 1 + 1 := by omega
  have nb4 : b ≠ w.heap.size + 1 + 1 + 1 + 1 := by omega
  have nb5 : b ≠ w.heap.size + 1 + 1 + 1 + 1 + 1 := by omega
  have nb6 : b ≠ w.heap.size + 1 + 1 + 1 + 1 + 1 + 1 := by omega
  go_enter Try.func15, Try.ntmps15
  go_wp2_with fail
  refine wp_loop_rounds 3 ?_
  rw [rounds_succ]
  go_wp2_with (first | (go_at_call 40; go_must ((refine (zz r0 s1 lo_r0 hi_r0 lo_s1 hi_s1 _).mono ?_); rintro e w1 ⟨rfl, hb1⟩; have B1 : Below w.heap.size w w1 := chain (by (repeat' (first | (with_reducible exact Below.refl _ _) | (with_reducible assumption) | (with_reducible refine Below.alloc ?_ ?_ _) | (with_reducible refine below_drewN' ?_ _) | (with_reducible refine Below.drew ?_) | (with_reducible refine Below.setCell ?_ ?_ _) | go_size))) hb1; have S1 := B1.size; clear hb1)) | (go_at_call 41; go_must ((refine (listed_rrs13 r0 0 s1 (by omega) (by omega) (by omega) (by omega) (by omega) (by omega) _).mono ?_); rintro e w2 ⟨g, cap', rfl, hrow, hb2⟩; have B2 : Below w.heap.size w w2 := chain (by (repeat' (first | (with_reducible exact Below.refl _ _) | (with_reducible assumption) | (with_reducible refine Below.alloc ?_ ?_ _) | (with_reducible refine below_drewN' ?_ _) | (with_reducible refine Below.drew ?_) | (with_reducible refine Below.setCell ?_ ?_ _) | go_size))) hb2; clear hb2)) | go_in)
  rw [rounds_succ]
  go_wp2_with (first | (go_at_call 40; go_must ((refine (zz r0 s1 lo_r0 hi_r0 lo_s1 hi_s1 _).mono ?_); rintro e w1 ⟨rfl, hb1⟩; have B1 : Below w.heap.size w w1 := chain (by (repeat' (first | (with_reducible exact Below.refl _ _) | (with_reducible assumption) | (with_reducible refine Below.alloc ?_ ?_ _) | (with_reducible refine below_drewN' ?_ _) | (with_reducible refine Below.drew ?_) | (with_reducible refine Below.setCell ?_ ?_ _) | go_size))) hb1; have S1 := B1.size; clear hb1)) | (go_at_call 41; go_must ((refine (listed_rrs13 r0 0 s1 (by omega) (by omega) (by omega) (by omega) (by omega) (by omega) _).mono ?_); rintro e w2 ⟨g, cap', rfl, hrow, hb2⟩; have B2 : Below w.heap.size w w2 := chain (by (repeat' (first | (with_reducible exact Below.refl _ _) | (with_reducible assumption) | (with_reducible refine Below.alloc ?_ ?_ _) | (with_reducible refine below_drewN' ?_ _) | (with_reducible refine Below.drew ?_) | (with_reducible refine Below.setCell ?_ ?_ _) | go_size))) hb2; clear hb2)) | go_in)
  rw [rounds_succ]
  go_wp2_with (first | (go_at_call 40; go_must ((refine (zz r0 s1 lo_r0 hi_r0 lo_s1 hi_s1 _).mono ?_); rintro e w1 ⟨rfl, hb1⟩; have B1 : Below w.heap.size w w1 := chain (by (repeat' (first | (with_reducible exact Below.refl _ _) | (with_reducible assumption) | (with_reducible refine Below.alloc ?_ ?_ _) | (with_reducible refine below_drewN' ?_ _) | (with_reducible refine Below.drew ?_) | (with_reducible refine Below.setCell ?_ ?_ _) | go_size))) hb1; have S1 := B1.size; clear hb1)) | (go_at_call 41; go_must ((refine (listed_rrs13 r0 0 s1 (by omega) (by omega) (by omega) (by omega) (by omega) (by omega) _).mono ?_); rintro e w2 ⟨g, cap', rfl, hrow, hb2⟩; have B2 : Below w.heap.size w w2 := chain (by (repeat' (first | (with_reducible exact Below.refl _ _) | (with_reducible assumption) | (with_reducible refine Below.alloc ?_ ?_ _) | (with_reducible refine below_drewN' ?_ _) | (with_reducible refine Below.drew ?_) | (with_reducible refine Below.setCell ?_ ?_ _) | go_size))) hb2; clear hb2)) | go_in)
  go_ret2
  exact ⟨g, cap', rfl, hrow, B2⟩
set_option maxRecDepth 100000 in
set_option maxHeartbeats 4000000 in
theorem main (n : Nat) (hn : n < 4294967296) (w : World) : Calls Try.prog 10 #[.int .u32 (n : Int)] w fun e w' => e = .returned (.bool true) ∧ Below w.heap.size w w' := by
  obtain ⟨r0, ⟨lo_r0, hi_r0⟩, g0⟩ := num0 n hn
  have a0 := arg0 r0 n lo_r0 hi_r0 g0
  clear g0
  obtain ⟨s1, ⟨lo_s1, hi_s1⟩, g1⟩ := num1 n hn
  have a1 := arg1 s1 n lo_s1 hi_s1 g1
  clear g1
  go_enter Try.func10, Try.ntmps10
  go_wp2_with (first | (go_at_call 33; ((with_reducible refine (a0 _).mono ?_); rintro e w1 ⟨rfl, hb1⟩; have B1 : Below w.heap.size w w1 := chain (by (repeat' (first | (with_reducible exact Below.refl _ _) | (with_reducible assumption) | (with_reducible refine Below.alloc ?_ ?_ _) | (with_reducible refine below_drewN' ?_ _) | (with_reducible refine Below.drew ?_) | (with_reducible refine Below.setCell ?_ ?_ _) | go_size))) hb1; have S1 := B1.size; clear hb1)) | (go_at_call 34; ((with_reducible refine (a1 _).mono ?_); rintro e w2 ⟨rfl, hb2⟩; have B2 : Below w.heap.size w w2 := chain (by (repeat' (first | (with_reducible exact Below.refl _ _) | (with_reducible assumption) | (with_reducible refine Below.alloc ?_ ?_ _) | (with_reducible refine below_drewN' ?_ _) | (with_reducible refine Below.drew ?_) | (with_reducible refine Below.setCell ?_ ?_ _) | go_size))) hb2; have S2 := B2.size; clear hb2)) | (go_at_call 15; go_must ((refine (turned r0 s1 lo_r0 hi_r0 lo_s1 hi_s1 _ _ _ (by simp) (by simp) (by simp) (by simp) (by simp) (by simp)).mono ?_); rintro e w3 ⟨g, cap', rfl, hrow, hb3⟩; have x0 : w3.cell? ⟨w2.heap.size, 0, none⟩ = some (.int .i64 1) := keepc hb3 (by simp); have x1 : w3.cell? ⟨w2.heap.size, 1, none⟩ = some (.int .i64 r0) := keepc hb3 (by simp); have x2 : w3.cell? ⟨w2.heap.size, 2, none⟩ = some (.int .i64 0) := keepc hb3 (by simp); have x3 : w3.cell? ⟨w2.heap.size, 3, none⟩ = some (.int .i64 4) := keepc hb3 (by simp); have x4 : w3.cell? ⟨w2.heap.size, 4, none⟩ = some (.int .i64 0) := keepc hb3 (by simp); have x5 : w3.cell? ⟨w2.heap.size, 5, none⟩ = some (.int .i64 s1) := keepc hb3 (by simp); have ya : w3.cell? ⟨g, 0, none⟩ = some (.int .i64 1) := hrow 0 _ rfl; have yb : w3.cell? ⟨g, 1, none⟩ = some (.int .i64 r0) := hrow 1 _ rfl; have yc : w3.cell? ⟨g, 2, none⟩ = some (.int .i64 0) := hrow 2 _ rfl; have yd : w3.cell? ⟨g, 3, none⟩ = some (.int .i64 1) := hrow 3 _ rfl; have ye : w3.cell? ⟨g, 4, none⟩ = some (.int .i64 0) := hrow 4 _ rfl; have yf : w3.cell? ⟨g, 5, none⟩ = some (.int .i64 0) := hrow 5 _ rfl; have yg : w3.cell? ⟨g, 6, none⟩ = some (.int .i64 4) := hrow 6 _ rfl; have yh : w3.cell? ⟨g, 7, none⟩ = some (.int .i64 0) := hrow 7 _ rfl; have yi : w3.cell? ⟨g, 8, none⟩ = some (.int .i64 s1) := hrow 8 _ rfl; clear hrow; have B3 : Below w.heap.size w w3 := chain (by (repeat' (first | (with_reducible exact Below.refl _ _) | (with_reducible assumption) | (with_reducible refine Below.alloc ?_ ?_ _) | (with_reducible refine below_drewN' ?_ _) | (with_reducible refine Below.drew ?_) | (with_reducible refine Below.setCell ?_ ?_ _) | go_size))) hb3; have S3 := B3.size; clear hb3)))
  go_region_held3 (fun w' => w'.cell? ⟨w2.heap.size, 0, none⟩ = some (.int .i64 1) ∧ w'.cell? ⟨w2.heap.size, 1, none⟩ = some (.int .i64 r0) ∧ w'.cell? ⟨w2.heap.size, 2, none⟩ = some (.int .i64 0) ∧ w'.cell? ⟨w2.heap.size, 3, none⟩ = some (.int .i64 4) ∧ w'.cell? ⟨w2.heap.size, 4, none⟩ = some (.int .i64 0) ∧ w'.cell? ⟨w2.heap.size, 5, none⟩ = some (.int .i64 s1) ∧ w'.cell? ⟨g, 0, none⟩ = some (.int .i64 1) ∧ w'.cell? ⟨g, 1, none⟩ = some (.int .i64 r0) ∧ w'.cell? ⟨g, 2, none⟩ = some (.int .i64 0) ∧ w'.cell? ⟨g, 3, none⟩ = some (.int .i64 1) ∧ w'.cell? ⟨g, 4, none⟩ = some (.int .i64 0) ∧ w'.cell? ⟨g, 5, none⟩ = some (.int .i64 0) ∧ w'.cell? ⟨g, 6, none⟩ = some (.int .i64 4) ∧ w'.cell? ⟨g, 7, none⟩ = some (.int .i64 0) ∧ w'.cell? ⟨g, 8, none⟩ = some (.int .i64 s1)) (go_keep)
    (first | (go_at_call 20; refine (there2 _ _ 1 4 _ (by decide) (by decide) (by simp [*]) (by simp [*])).mono ?_; rintro e w' ⟨rfl, rfl⟩) | (go_at_call 16; refine (likeall3 _ _ _ _ 1 r0 0 1 0 0 4 0 s1 1 r0 0 1 0 0 4 0 s1 _ (by first | assumption | (simp [*]; done)) (by first | assumption | (simp [*]; done)) (by first | assumption | (simp [*]; done)) (by first | assumption | (simp [*]; done)) (by first | assumption | (simp [*]; done)) (by first | assumption | (simp [*]; done)) (by first | assumption | (simp [*]; done)) (by first | assumption | (simp [*]; done)) (by first | assumption | (simp [*]; done)) (by first | assumption | (simp [*]; done)) (by first | assumption | (simp [*]; done)) (by first | assumption | (simp [*]; done)) (by first | assumption | (simp [*]; done)) (by first | assumption | (simp [*]; done)) (by first | assumption | (simp [*]; done)) (by first | assumption | (simp [*]; done)) (by first | assumption | (simp [*]; done)) (by first | assumption | (simp [*]; done)) (like_reg r0) (like_reg 0) (like_44 s1)).mono ?_; rintro e w' ⟨rfl, hb9⟩; have nx0 : w'.cell? ⟨w2.heap.size, 0, none⟩ = some (.int .i64 1) := keepc hb9 (by simp [*]); have nx1 : w'.cell? ⟨w2.heap.size, 1, none⟩ = some (.int .i64 r0) := keepc hb9 (by simp [*]); have nx2 : w'.cell? ⟨w2.heap.size, 2, none⟩ = some (.int .i64 0) := keepc hb9 (by simp [*]); have nx3 : w'.cell? ⟨w2.heap.size, 3, none⟩ = some (.int .i64 4) := keepc hb9 (by simp [*]); have nx4 : w'.cell? ⟨w2.heap.size, 4, none⟩ = some (.int .i64 0) := keepc hb9 (by simp [*]); have nx5 : w'.cell? ⟨w2.heap.size, 5, none⟩ = some (.int .i64 s1) := keepc hb9 (by simp [*]); have nya : w'.cell? ⟨g, 0, none⟩ = some (.int .i64 1) := keepc hb9 (by simp [*]); have nyb : w'.cell? ⟨g, 1, none⟩ = some (.int .i64 r0) := keepc hb9 (by simp [*]); have nyc : w'.cell? ⟨g, 2, none⟩ = some (.int .i64 0) := keepc hb9 (by simp [*]); have nyd : w'.cell? ⟨g, 3, none⟩ = some (.int .i64 1) := keepc hb9 (by simp [*]); have nye : w'.cell? ⟨g, 4, none⟩ = some (.int .i64 0) := keepc hb9 (by simp [*]); have nyf : w'.cell? ⟨g, 5, none⟩ = some (.int .i64 0) := keepc hb9 (by simp [*]); have nyg : w'.cell? ⟨g, 6, none⟩ = some (.int .i64 4) := keepc hb9 (by simp [*]); have nyh : w'.cell? ⟨g, 7, none⟩ = some (.int .i64 0) := keepc hb9 (by simp [*]); have nyi : w'.cell? ⟨g, 8, none⟩ = some (.int .i64 s1) := keepc hb9 (by simp [*])) | go_in)
  go_wp2_with fail
  go_ret
  exact ⟨rfl, chain (by (repeat' (first | (with_reducible exact Below.refl _ _) | (with_reducible assumption) | (with_reducible refine Below.alloc ?_ ?_ _) | (with_reducible refine below_drewN' ?_ _) | (with_reducible refine Below.drew ?_) | (with_reducible refine Below.setCell ?_ ?_ _) | go_size))) hb9⟩
theorem walk (a0 : Int) (w0 : (Lit.int .u32 a0).wf = true) (w : World) :
    Calls Try.prog 10 #[.int .u32 a0] w fun e w' => e = .returned (.bool true) ∧ Below w.heap.size w w' := by
  obtain ⟨b0, b1⟩ := bounds_u32 w0
  obtain ⟨n, rfl⟩ := Int.eq_ofNat_of_zero_le b0
  have hn : n < 4294967296 := by omega
  exact main n hn w

set_option maxRecDepth 100000 in
theorem lifted (os : Os) (started : os.Started) (H : Type) (enc : TypeId × Value → H) :
    ReturnsInHanded {} Try.checked os 10 .any (Rows.fnConvertBnezSpec.pre6 enc Try.prog Try.f10 Rows.fnConvertBnezRow.domain false) (Rows.fnConvertBnezSpec.post enc Try.prog Try.f10 false true false false) := by
  refine returnsInHanded_of_change (C := Try.checked) own started (by kernel_rfl) Try.func10
    (ChangeSpec.witness6 (enc := enc) (C := Try.checked) false ⟨#[], #[.int .u32 0], []⟩ 8 (by kernel_rfl) (by kernel_rfl) (by kernel_rfl) (by kernel_rfl)) ?_
  intro W base args ds gs before hval0 hW hcnd _
  have hval : ∀ (j : Nat) t v, Try.f10.params[j]? = some t → args[j]? = some v → Value.okWide Try.prog W .any base t v := hval0
  have hW' := hW
  obtain ⟨p, q, hA0, hV, rfl, hfz, hnd⟩ := hW
  have hA : DataW.TrodAll enc Try.prog W 0 (fun _ => true) true Try.f10.params.toList args.toList ds p := hA0
  rw [Try.params10] at hA hval
  obtain ⟨v0, vs0, d0, ds0, p0, q0, hargs, rfl, rfl, h0, r0⟩ := trodAll_cons hA
  obtain ⟨rfl, rfl, rfl⟩ := trodAll_nil r0
  obtain rfl : args = #[v0] := by cases args; simp_all
  obtain ⟨rfl, rfl⟩ := trodVars_none hV
  obtain ⟨a0, rfl, rfl, rfl, w0⟩ := open_int Try.underlying22 (hval 0 22 v0 rfl rfl) h0
  clear hA0 hval0
  simp only [List.append_nil] at hW'
  refine (walk a0 w0 W).mono fun e W' ⟨he, hg⟩ => ?_
  subst he
  exact ⟨_, rfl, _, _, _, [], [], [], hW', (trodAll_cons_mk (shut_bool Try.underlying4 _) trodAll_mk0), (trodAll_cons_mk (shut_int Try.underlying22 w0) trodAll_mk0), rfl, hg.frame _, fun h => by cases h⟩

theorem over : Rows.fnConvertBnezRow.holds Try.pinned (OpenSpec.ofChange Rows.fnConvertBnezSpec) :=
  OpenClaim.holds_of_wide 10 Try.f10 rfl rfl rfl rfl rfl rfl rfl ⟨rfl, rfl, rfl, rfl, rfl⟩ rfl rfl rfl rfl rfl (by kernel_rfl) Try.func10 (by kernel_rfl)
    (of_decide_eq_true (by kernel_rfl)) (by unfold Func.isWrapper; first | (rw [if_pos (by decide +kernel)]; kernel_rfl) | (rw [if_neg (by decide +kernel)]; exact ⟨rfl, rfl⟩))
    (fun os started H enc _ => lifted os started H enc)

theorem proved : Rows.FnConvertBnezSaid :=
  over
#print axioms proved
end Go.Proofs.Ytjbbbjnhbdohoaa.fnConvertBnez
