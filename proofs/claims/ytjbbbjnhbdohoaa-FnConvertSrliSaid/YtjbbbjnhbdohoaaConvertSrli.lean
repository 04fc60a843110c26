/-
  'laws.FnConvertSrli' returns true for every word of 32 bits. No condition.
-/
import Derived.Test.YtjbbbjnhbdohoaaRows
import Derived.Test.YtjbbbjnhbdohoaaQ
import Derived.Test.YtjbbbjnhbdohoaaBits
import Derived.Test.YtjbbbjnhbdohoaaFacts
import Derived.Test.YtjbbbjnhbdohoaaConv
import Derived.WalkKit
import Derived.WalkLawsBesides
import Derived.WalkSpells
import Derived.ProofKit
import Derived.OpenShut
import Derived.Handy
import Derived.RegionTactic
import Derived.ChangeAlike
import Derived.BigRegion
import Derived.Deep.RegionHeld3
import Derived.Deep.DeepMust
namespace Go.Proofs.Ytjbbbjnhbdohoaa.fnConvertSrli
open Go Go.ChangeShapes Go.WideShapes Go.ChangeAt Go.RowKit Conv
set_option linter.unusedVariables false
theorem own : ownKnob Try.prog.godebug = none := by kernel_rfl
theorem mixed : Try.prog.follows .mixedOrders = true := by kernel_rfl

theorem dec0 (n : Nat) (hn : n < 4294967296) : Q.Gives Try.prog 44 #[.int .u16 35, .int .u32 (n : Int)] (.iface 50 (.int .u16 (8 + ((n / 2 ^ 7 % 2 ^ 3 : Nat) : Int)))) := by
  have e : Q.run Try.prog 4 3 [] 44 #[.int .u16 35, .int .u32 (n : Int)] = some ((Value.iface 50 (.int .u16 (IntKind.u16.wrap (8 + (IntKind.u16.wrap (Ev.an (Ev.shr (n : Int) 7) 7)))))), []) := by kernel_rfl
  have r : (IntKind.u16.wrap (8 + (IntKind.u16.wrap (Ev.an (Ev.shr (n : Int) 7) 7)))) = ((8 + n / 2 ^ 7 % 2 ^ 3 : Nat) : Int) := Ev.reg n 7 3 7 8 (by decide) (by decide) hn (by decide)
  rw [r] at e
  refine Q.Gives.eq (Q.gives mixed e trivial) ?_
  have z : ((8 + n / 2 ^ 7 % 2 ^ 3 : Nat) : Int) = 8 + ((n / 2 ^ 7 % 2 ^ 3 : Nat) : Int) := by omega
  rw [z]
theorem num0 (n : Nat) (hn : n < 4294967296) : ∃ r0 : Int, (0 ≤ r0 ∧ r0 < 65536) ∧ Q.Gives Try.prog 44 #[.int .u16 35, .int .u32 (n : Int)] (.iface 50 (.int .u16 r0)) :=
  ⟨(8 + ((n / 2 ^ 7 % 2 ^ 3 : Nat) : Int)), ⟨by omega, by omega⟩, dec0 n hn⟩
set_option maxRecDepth 100000 in
theorem arg0 (r0 : Int) (n : Nat) (h0 : 0 ≤ r0) (h1 : r0 < 65536) (g : Q.Gives Try.prog 44 #[.int .u16 35, .int .u32 (n : Int)] (.iface 50 (.int .u16 r0))) (w : World) : Calls Try.prog 30 #[.int .u32 (n : Int)] w fun e w' => e = .returned (.agg #[.int .i64 1, .int .i64 r0, .int .i64 0]) ∧ Below w.heap.size w w' := by
  have d : ∀ w, Calls _ _ _ w _ := g
  clear g
  go_enter Try.func30, Try.ntmps30
  go_wp2_with (first | (go_at_call 44; ((with_reducible refine (d _).mono ?_); rintro e w' ⟨rfl, m, rfl⟩)) | go_in)
  go_returns
  exact ⟨rfl, (by (repeat' (first | (with_reducible exact Below.refl _ _) | (with_reducible assumption) | (with_reducible refine Below.alloc ?_ ?_ _) | (with_reducible refine below_drewN' ?_ _) | (with_reducible refine Below.drew ?_) | (with_reducible refine Below.setCell ?_ ?_ _) | go_size)))⟩
theorem any0 (n : Nat) (hn : n < 4294967296) (w : World) : Calls Try.prog 30 #[.int .u32 (n : Int)] w fun e w' => ∃ k r t : Int, e = .returned (.agg #[.int .i64 k, .int .i64 r, .int .i64 t]) ∧ Below w.heap.size w w' := by
  obtain ⟨x, ⟨h0, h1⟩, g⟩ := num0 n hn
  exact (arg0 x n h0 h1 g w).mono fun e w' h => ⟨_, _, _, h⟩
def U1 (n : Nat) : Nat := n / 2 ^ 2 % 2 ^ 5 * 2 ^ 0 + n / 2 ^ 12 % 2 ^ 1 * 2 ^ 5
theorem U1_lt (n : Nat) : U1 n < 2 ^ 6 := by unfold U1; omega
theorem join1 (f1 f2 : Nat) (h1 : f1 < 2 ^ 5) (h2 : f2 < 2 ^ 1) :
    (Ev.o ((f1 * 2 ^ 0 : Nat) : Int) ((f2 * 2 ^ 5 : Nat) : Int)) = ((f1 * 2 ^ 0 + f2 * 2 ^ 5 : Nat) : Int) := by
  rw [Ev.o_field (f1 * 2 ^ 0) f2 5 1 h2 (by omega) (by decide) (by omega)]
theorem imm1 (n : Nat) (hn : n < 4294967296) : (Ev.o (Ev.shr (Ev.shl (n : Int) 25) 27) (Ev.shl (Ev.shr (Ev.shl (n : Int) 19) 31) 5)) = ((U1 n : Nat) : Int) := by
  have t1 : (Ev.shr (Ev.shl (n : Int) 25) 27) = ((n / 2 ^ 2 % 2 ^ 5 * 2 ^ 0 : Nat) : Int) := Ev.T2 n 25 27 (by decide) (by decide)
  have t2 : (Ev.shl (Ev.shr (Ev.shl (n : Int) 19) 31) 5) = ((n / 2 ^ 12 % 2 ^ 1 * 2 ^ 5 : Nat) : Int) := Ev.T3 n 19 31 5 (by decide) (by decide) (by decide)
  rw [t1, t2]
  exact join1 _ _ (Nat.mod_lt _ (by decide)) (Nat.mod_lt _ (by decide))
theorem dec1 (n : Nat) (hn : n < 4294967296) (hz : ¬ U1 n = 0) : Q.Gives Try.prog 44 #[.int .u16 48, .int .u32 (n : Int)] (.iface 56 (.agg #[.int .u32 ((U1 n : Nat) : Int), .bool false])) := by
  have hl := U1_lt n
  have c : (IntKind.i32.wrap ((U1 n : Nat) : Int) == 0) = false := by rw [Ev.w32 _ (by omega) (by omega), beq_eq_false_iff_ne]; omega
  have e : Q.run Try.prog 4 3 [(48, false)] 44 #[.int .u16 48, .int .u32 (n : Int)] = some ((Value.iface 56 (.agg #[.int .u32 (Ev.o (Ev.shr (Ev.shl (n : Int) 25) 27) (Ev.shl (Ev.shr (Ev.shl (n : Int) 19) 31) 5)), .bool false])), [((IntKind.i32.wrap (Ev.o (Ev.shr (Ev.shl (n : Int) 25) 27) (Ev.shl (Ev.shr (Ev.shl (n : Int) 19) 31) 5)) == 0), false)]) := by kernel_rfl
  rw [imm1 n hn] at e
  exact Q.gives mixed e ⟨c, trivial⟩
theorem num1 (n : Nat) (hn : n < 4294967296) (hz : ¬ U1 n = 0) : ∃ u1 : Int, (0 ≤ u1 ∧ u1 < 2147483648) ∧ Q.Gives Try.prog 44 #[.int .u16 48, .int .u32 (n : Int)] (.iface 56 (.agg #[.int .u32 u1, .bool false])) :=
  ⟨((U1 n : Nat) : Int), ⟨by omega, by have := U1_lt n; omega⟩, dec1 n hn hz⟩
set_option maxRecDepth 100000 in
theorem arg1 (u1 : Int) (n : Nat) (h0 : 0 ≤ u1) (h1 : u1 < 2147483648) (g : Q.Gives Try.prog 44 #[.int .u16 48, .int .u32 (n : Int)] (.iface 56 (.agg #[.int .u32 u1, .bool false]))) (w : World) : Calls Try.prog 38 #[.int .u32 (n : Int)] w fun e w' => e = .returned (.agg #[.int .i64 5, .int .i64 0, .int .i64 u1]) ∧ Below w.heap.size w w' := by
  have d : ∀ w, Calls _ _ _ w _ := g
  clear g
  go_enter Try.func38, Try.ntmps38
  go_wp2_with (first | (go_at_call 44; ((with_reducible refine (d _).mono ?_); rintro e w' ⟨rfl, m, rfl⟩)) | go_in)
  go_returns
  exact ⟨rfl, (by (repeat' (first | (with_reducible exact Below.refl _ _) | (with_reducible assumption) | (with_reducible refine Below.alloc ?_ ?_ _) | (with_reducible refine below_drewN' ?_ _) | (with_reducible refine Below.drew ?_) | (with_reducible refine Below.setCell ?_ ?_ _) | go_size)))⟩
theorem decz1 (n : Nat) (hn : n < 4294967296) (hz : U1 n = 0) : Q.Gives Try.prog 44 #[.int .u16 48, .int .u32 (n : Int)] .nilIface := by
  have e : Q.run Try.prog 4 3 [(48, true)] 44 #[.int .u16 48, .int .u32 (n : Int)] = some (Value.nilIface, [((IntKind.i32.wrap (Ev.o (Ev.shr (Ev.shl (n : Int) 25) 27) (Ev.shl (Ev.shr (Ev.shl (n : Int) 19) 31) 5)) == 0), true)]) := by kernel_rfl
  rw [imm1 n hn, hz] at e
  exact Q.gives mixed e ⟨by decide, trivial⟩
set_option maxRecDepth 100000 in
theorem none1 (n : Nat) (hn : n < 4294967296) (hz : U1 n = 0) (w : World) : Calls Try.prog 38 #[.int .u32 (n : Int)] w fun e w' => e = .returned (.agg #[.int .i64 0, .int .i64 0, .int .i64 0]) ∧ Below w.heap.size w w' := by
  have d : ∀ w, Calls _ _ _ w _ := decz1 n hn hz
  go_enter Try.func38, Try.ntmps38
  go_wp2_with (first | (go_at_call 44; ((with_reducible refine (d _).mono ?_); rintro e w' ⟨rfl, m, rfl⟩)) | go_in)
  go_returns
  exact ⟨rfl, (by (repeat' (first | (with_reducible exact Below.refl _ _) | (with_reducible assumption) | (with_reducible refine Below.alloc ?_ ?_ _) | (with_reducible refine below_drewN' ?_ _) | (with_reducible refine Below.drew ?_) | (with_reducible refine Below.setCell ?_ ?_ _) | go_size)))⟩
theorem any1 (n : Nat) (hn : n < 4294967296) (w : World) : Calls Try.prog 38 #[.int .u32 (n : Int)] w fun e w' => ∃ k r t : Int, e = .returned (.agg #[.int .i64 k, .int .i64 r, .int .i64 t]) ∧ Below w.heap.size w w' := by
  by_cases hz : U1 n = 0
  · exact (none1 n hn hz w).mono fun e w' h => ⟨0, 0, 0, h⟩
  · obtain ⟨x, ⟨h0, h1⟩, g⟩ := num1 n hn hz
    exact (arg1 x n h0 h1 g w).mono fun e w' h => ⟨_, _, _, h⟩
set_option maxRecDepth 100000 in
set_option maxHeartbeats 4000000 in
theorem zz (r0 u1 : Int) (lo_r0 : 0 ≤ r0) (hi_r0 : r0 < 65536) (lo_u1 : 0 ≤ u1) (hi_u1 : u1 < 2147483648) (w : World) : Calls Try.prog 40 #[.int .u16 148, .agg #[(.iface 50 (.int .u16 r0)), (.iface 56 (.agg #[.int .u32 u1, .bool true])), .nilIface, .nilIface, .nilIface, .nilIface]] w fun e w' => e = .returned (.tuple #[.int .u16 364, .agg #[(.iface 50 (.int .u16 r0)), (.iface 50 (.int .u16 r0)), (.iface 56 (.agg #[.int .u32 u1, .bool true])), .nilIface, .nilIface, .nilIface]]) ∧ Below w.heap.size w w' := by
  go_enter Try.func40, Try.ntmps40
  go_wp2
  all_goals (try go_region)
  all_goals go_wp2
  all_goals (try go_region)
  all_goals go_wp2
  all_goals go_returns
  all_goals (refine ⟨rfl, ?_⟩)
  all_goals (repeat' (first | (with_reducible exact Below.refl _ _) | (with_reducible assumption) | (with_reducible refine Below.alloc ?_ ?_ _) | (with_reducible refine below_drewN' ?_ _) | (with_reducible refine Below.drew ?_) | (with_reducible refine Below.setCell ?_ ?_ _) | go_size))
set_option maxRecDepth 100000 in
set_option maxHeartbeats 1000000 in
theorem turned (r0 u1 : Int) (lo_r0 : 0 ≤ r0) (hi_r0 : r0 < 65536) (lo_u1 : 0 ≤ u1) (hi_u1 : u1 < 2147483648) (b cap : Nat) (w : World) (x0 : w.cell? ⟨b, 0, none⟩ = some (.int .i64 1)) (x1 : w.cell? ⟨b, 1, none⟩ = some (.int .i64 r0)) (x2 : w.cell? ⟨b, 2, none⟩ = some (.int .i64 0)) (x3 : w.cell? ⟨b, 3, none⟩ = some (.int .i64 5)) (x4 : w.cell? ⟨b, 4, none⟩ = some (.int .i64 0)) (x5 : w.cell? ⟨b, 5, none⟩ = some (.int .i64 u1)) : Calls Try.prog 15 #[.int .i64 148, .slice (some ⟨b, 0, none⟩) 2 cap] w
    fun e w' => ∃ g cap', e = .returned (.tuple #[.int .i64 364, .slice (some ⟨g, 0, none⟩) 3 cap']) ∧ RowAt w' g [.int .i64 1, .int .i64 r0, .int .i64 0, .int .i64 1, .int .i64 r0, .int .i64 0, .int .i64 5, .int .i64 0, .int .i64 u1] ∧ Below w.heap.size w w' := by
  have hbs : b < w.heap.size := World.block_lt_of_cell? w _ x0
  have hl1 : b < w.heap.size + 1 := by omega
  have hl2 : b < w.heap.size + 1 + 1 := by omega
  have hl3 : b < w.heap.size + 1 + 1 + 1 := by omega
  have hl4 : b < w.heap.size + 1 + 1 + 1 + 1 := by omega
  have hl5 : b < w.heap.size + 1 + 1 + 1 + 1 + 1 := by omega
  have hl6 : b < w.heap.size + 1 + 1 + 1 + 1 + 1 + 1 := by omega
  have nb0 : b ≠ w.heap.size := by omega
  have nb1 : b ≠ w.heap.size + 1 := by omega
  have nb2 : b ≠ w.heap.size + 1 + 1 := by omega
  have nb3 : b ≠ w.heap.size + 1 + 1 + 1 := by omega
  have nb4 : b ≠ w.heap.size + 1 + 1 + 1 + 1 := by omega
  have nb5 : b ≠ w.heap.size + 1 + 1 + 1 + 1 + 1 := by omega
  have nb6 : b ≠ w.heap.size + 1 + 1 + 1 + 1 + 1 + 1 := by omega
  go_enter Try.func15, Try.ntmps15
  go_wp2_with fail
  refine wp_loop_rounds 3 ?_
  rw [rounds_succ]
  go_wp2_with (first | (go_at_call 40; go_must ((refine (zz r0 u1 lo_r0 hi_r0 lo_u1 hi_u1 _).mono ?_); rintro e w1 ⟨rfl, hb1⟩; have B1 : Below w.heap.size w w1 := chain (by (repeat' (first | (with_reducible exact Below.refl _ _) | (with_reducible assumption) | (with_reducible refine Below.alloc ?_ ?_ _) | (with_reducible refine below_drewN' ?_ _) | (with_reducible refine Below.drew ?_) | (with_reducible refine Below.setCell ?_ ?_ _) | go_size))) hb1; have S1 := B1.size; clear hb1)) | (go_at_call 41; go_must ((refine (listed_rru r0 r0 u1 (by omega) (by omega) (by omega) (by omega) (by omega) (by omega) _).mono ?_); rintro e w2 ⟨g, cap', rfl, hrow, hb2⟩; have B2 : Below w.heap.size w w2 := chain (by (repeat' (first | (with_reducible exact Below.refl _ _) | (with_reducible assumption) | (with_reducible refine Below.alloc ?_ ?_ _) | (with_reducible refine below_drewN' ?_ _) | (with_reducible refine Below.drew ?_) | (with_reducible refine Below.setCell ?_ ?_ _) | go_size))) hb2; clear hb2)) | go_in)
  rw [rounds_succ]
  go_wp2_with (first | (go_at_call 40; go_must ((refine (zz r0 u1 lo_r0 hi_r0 lo_u1 hi_u1 _).mono ?_); rintro e w1 ⟨rfl, hb1⟩; have B1 : Below w.heap.size w w1 := chain (by (repeat' (first | (with_reducible exact Below.refl _ _) | (with_reducible assumption) | (with_reducible refine Below.alloc ?_ ?_ _) | (with_reducible refine below_drewN' ?_ _) | (with_reducible refine Below.drew ?_) | (with_reducible refine Below.setCell ?_ ?_ _) | go_size))) hb1; have S1 := B1.size; clear hb1)) | (go_at_call 41; go_must ((refine (listed_rru r0 r0 u1 (by omega) (by omega) (by omega) (by omega) (by omega) (by omega) _).mono ?_); rintro e w2 ⟨g, cap', rfl, hrow, hb2⟩; have B2 : Below w.heap.size w w2 := chain (by (repeat' (first | (with_reducible exact Below.refl _ _) | (with_reducible assumption) | (with_reducible refine Below.alloc ?_ ?_ _) | (with_reducible refine below_drewN' ?_ _) | (with_reducible refine Below.drew ?_) | (with_reducible refine Below.setCell ?_ ?_ _) | go_size))) hb2; clear hb2)) | go_in)
  rw [rounds_succ]
  go_wp2_with (first | (go_at_call 40; go_must ((refine (zz r0 u1 lo_r0 hi_r0 lo_u1 hi_u1 _).mono ?_); rintro e w1 ⟨rfl, hb1⟩; have B1 : Below w.heap.size w w1 := chain (by (repeat' (first | (with_reducible exact Below.refl _ _) | (with_reducible assumption) | (with_reducible refine Below.alloc ?_ ?_ _) | (with_reducible refine below_drewN' ?_ _) | (with_reducible refine Below.drew ?_) | (with_reducible refine Below.setCell ?_ ?_ _) | go_size))) hb1; have S1 := B1.size; clear hb1)) | (go_at_call 41; go_must ((refine (listed_rru r0 r0 u1 (by omega) (by omega) (by omega) (by omega) (by omega) (by omega) _).mono ?_); rintro e w2 ⟨g, cap', rfl, hrow, hb2⟩; have B2 : Below w.heap.size w w2 := chain (by (repeat' (first | (with_reducible exact Below.refl _ _) | (with_reducible assumption) | (with_reducible refine Below.alloc ?_ ?_ _) | (with_reducible refine below_drewN' ?_ _) | (with_reducible refine Below.drew ?_) | (with_reducible refine Below.setCell ?_ ?_ _) | go_size))) hb2; clear hb2)) | go_in)
  go_ret2
  exact ⟨g, cap', rfl, hrow, B2⟩
theorem guard0 (n : Nat) (hn : n < 4294967296) : Q.Gives Try.prog 26 #[.int .u32 (n : Int)] (.int .i64 ((U1 n : Nat) : Int)) := by
  have s : (IntKind.i64.wrap ((Ev.pt (n : Int) 12 12 5) + (Ev.pt (n : Int) 6 2 0))) = ((U1 n : Nat) : Int) := by
    have p1 : (Ev.pt (n : Int) 12 12 5) = ((n / 2 ^ 12 % 2 ^ 1 * 2 ^ 5 : Nat) : Int) := Ev.pt_cast n 12 12 5 hn (by decide) (by decide) (by decide)
    have p2 : (Ev.pt (n : Int) 6 2 0) = ((n / 2 ^ 2 % 2 ^ 5 * 2 ^ 0 : Nat) : Int) := Ev.pt_cast n 6 2 0 hn (by decide) (by decide) (by decide)
    rw [p1, p2]
    unfold U1
    have b1 : n / 2 ^ 12 % 2 ^ 1 < 2 ^ 1 := Nat.mod_lt _ (by decide)
    have b2 : n / 2 ^ 2 % 2 ^ 5 < 2 ^ 5 := Nat.mod_lt _ (by decide)
    generalize n / 2 ^ 12 % 2 ^ 1 = g1 at *
    generalize n / 2 ^ 2 % 2 ^ 5 = g2 at *
    rw [Ev.wsum (g1 * 2 ^ 5) (g2 * 2 ^ 0) (by omega)]
    all_goals exact congrArg Int.ofNat (by omega)
  have e : Q.run Try.prog 4 5 [] 26 #[.int .u32 (n : Int)] = some (Value.int .i64 (IntKind.i64.wrap ((Ev.pt (n : Int) 12 12 5) + (Ev.pt (n : Int) 6 2 0))), []) := by kernel_rfl
  rw [s] at e
  exact Q.gives mixed e trivial
set_option maxRecDepth 100000 in
set_option maxHeartbeats 4000000 in
theorem early0 (n : Nat) (hn : n < 4294967296)  (z0 : U1 n = 0) (w : World) : Calls Try.prog 14 #[.int .u32 (n : Int)] w fun e w' => e = .returned (.bool true) ∧ Below w.heap.size w w' := by
  have p0 := guard0 n hn
  rw [z0] at p0
  have q0 : ∀ w, Calls _ _ _ w _ := p0
  clear p0 z0
  have a0 := any0 n hn
  have a1 := any1 n hn
  go_enter Try.func14, Try.ntmps14
  go_wp2_with (first | (go_at_call 30; ((with_reducible refine (a0 _).mono ?_); rintro e w1 ⟨k0, r0', t0, rfl, hb1⟩; have B1 : Below w.heap.size w w1 := chain (by (repeat' (first | (with_reducible exact Below.refl _ _) | (with_reducible assumption) | (with_reducible refine Below.alloc ?_ ?_ _) | (with_reducible refine below_drewN' ?_ _) | (with_reducible refine Below.drew ?_) | (with_reducible refine Below.setCell ?_ ?_ _) | go_size))) hb1; have S1 := B1.size; clear hb1)) | (go_at_call 38; ((with_reducible refine (a1 _).mono ?_); rintro e w2 ⟨k1, r1', t1, rfl, hb2⟩; have B2 : Below w.heap.size w w2 := chain (by (repeat' (first | (with_reducible exact Below.refl _ _) | (with_reducible assumption) | (with_reducible refine Below.alloc ?_ ?_ _) | (with_reducible refine below_drewN' ?_ _) | (with_reducible refine Below.drew ?_) | (with_reducible refine Below.setCell ?_ ?_ _) | go_size))) hb2; have S2 := B2.size; clear hb2)) | (go_at_call 26; ((with_reducible refine (q0 _).mono ?_); rintro e w' ⟨rfl, m, rfl⟩)) | go_in)
  all_goals go_ret
  all_goals (refine ⟨rfl, ?_⟩)
  all_goals (repeat' (first | (with_reducible exact Below.refl _ _) | (with_reducible assumption) | (with_reducible refine Below.alloc ?_ ?_ _) | (with_reducible refine below_drewN' ?_ _) | (with_reducible refine Below.drew ?_) | (with_reducible refine Below.setCell ?_ ?_ _) | go_size))
set_option maxRecDepth 100000 in
set_option maxHeartbeats 4000000 in
theorem main (n : Nat) (hn : n < 4294967296) (z0 : ¬ U1 n = 0) (w : World) : Calls Try.prog 14 #[.int .u32 (n : Int)] w fun e w' => e = .returned (.bool true) ∧ Below w.heap.size w w' := by
  obtain ⟨r0, ⟨lo_r0, hi_r0⟩, g0⟩ := num0 n hn
  have a0 := arg0 r0 n lo_r0 hi_r0 g0
  clear g0
  obtain ⟨u1, ⟨lo_u1, hi_u1⟩, g1⟩ := num1 n hn z0
  have a1 := arg1 u1 n lo_u1 hi_u1 g1
  clear g1
  have b0 : ((((U1 n : Nat) : Int)) == 0) = false := by rw [beq_eq_false_iff_ne]; omega
  have q0 : ∀ w, Calls _ _ _ w _ := guard0 n hn
  generalize ((U1 n : Nat) : Int) = y0 at *
  clear z0
  go_enter Try.func14, Try.ntmps14
  go_wp2_with (first | (go_at_call 30; ((with_reducible refine (a0 _).mono ?_); rintro e w1 ⟨rfl, hb1⟩; have B1 : Below w.heap.size w w1 := chain (by (repeat' (first | (with_reducible exact Below.refl _ _) | (with_reducible assumption) | (with_reducible refine Below.alloc ?_ ?_ _) | (with_reducible refine below_drewN' ?_ _) | (with_reducible refine Below.drew ?_) | (with_reducible refine Below.setCell ?_ ?_ _) | go_size))) hb1; have S1 := B1.size; clear hb1)) | (go_at_call 38; ((with_reducible refine (a1 _).mono ?_); rintro e w2 ⟨rfl, hb2⟩; have B2 : Below w.heap.size w w2 := chain (by (repeat' (first | (with_reducible exact Below.refl _ _) | (with_reducible assumption) | (with_reducible refine Below.alloc ?_ ?_ _) | (with_reducible refine below_drewN' ?_ _) | (with_reducible refine Below.drew ?_) | (with_reducible refine Below.setCell ?_ ?_ _) | go_size))) hb2; have S2 := B2.size; clear hb2)) | (go_at_call 26; ((with_reducible refine (q0 _).mono ?_); rintro e w' ⟨rfl, m, rfl⟩)) | (go_at_call 15; go_must ((refine (turned r0 u1 lo_r0 hi_r0 lo_u1 hi_u1 _ _ _ (by simp) (by simp) (by simp) (by simp) (by simp) (by simp)).mono ?_); rintro e w3 ⟨g, cap', rfl, hrow, hb3⟩; have x0 : w3.cell? ⟨w2.heap.size, 0, none⟩ = some (.int .i64 1) := keepc hb3 (by simp); have x1 : w3.cell? ⟨w2.heap.size, 1, none⟩ = some (.int .i64 r0) := keepc hb3 (by simp); have x2 : w3.cell? ⟨w2.heap.size, 2, none⟩ = some (.int .i64 0) := keepc hb3 (by simp); have x3 : w3.cell? ⟨w2.heap.size, 3, none⟩ = some (.int .i64 5) := keepc hb3 (by simp); have x4 : w3.cell? ⟨w2.heap.size, 4, none⟩ = some (.int .i64 0) := keepc hb3 (by simp); have x5 : w3.cell? ⟨w2.heap.size, 5, none⟩ = some (.int .i64 u1) := keepc hb3 (by simp); have ya : w3.cell? ⟨g, 0, none⟩ = some (.int .i64 1) := hrow 0 _ rfl; have yb : w3.cell? ⟨g, 1, none⟩ = some (.int .i64 r0) := hrow 1 _ rfl; have yc : w3.cell? ⟨g, 2, none⟩ = some (.int .i64 0) := hrow 2 _ rfl; have yd : w3.cell? ⟨g, 3, none⟩ = some (.int .i64 1) := hrow 3 _ rfl; have ye : w3.cell? ⟨g, 4, none⟩ = some (.int .i64 r0) := hrow 4 _ rfl; have yf : w3.cell? ⟨g, 5, none⟩ = some (.int .i64 0) := hrow 5 _ rfl; have yg : w3.cell? ⟨g, 6, none⟩ = some (.int .i64 5) := hrow 6 _ rfl; have yh : w3.cell? ⟨g, 7, none⟩ = some (.int .i64 0) := hrow 7 _ rfl; have yi : w3.cell? ⟨g, 8, none⟩ = some (.int .i64 u1) := hrow 8 _ rfl; clear hrow; have B3 : Below w.heap.size w w3 := chain (by (repeat' (first | (with_reducible exact Below.refl _ _) | (with_reducible assumption) | (with_reducible refine Below.alloc ?_ ?_ _) | (with_reducible refine below_drewN' ?_ _) | (with_reducible refine Below.drew ?_) | (with_reducible refine Below.setCell ?_ ?_ _) | go_size))) hb3; have S3 := B3.size; clear hb3)))
  go_region_held3 (fun w' => w'.cell? ⟨w2.heap.size, 0, none⟩ = some (.int .i64 1) ∧ w'.cell? ⟨w2.heap.size, 1, none⟩ = some (.int .i64 r0) ∧ w'.cell? ⟨w2.heap.size, 2, none⟩ = some (.int .i64 0) ∧ w'.cell? ⟨w2.heap.size, 3, none⟩ = some (.int .i64 5) ∧ w'.cell? ⟨w2.heap.size, 4, none⟩ = some (.int .i64 0) ∧ w'.cell? ⟨w2.heap.size, 5, none⟩ = some (.int .i64 u1) ∧ w'.cell? ⟨g, 0, none⟩ = some (.int .i64 1) ∧ w'.cell? ⟨g, 1, none⟩ = some (.int .i64 r0) ∧ w'.cell? ⟨g, 2, none⟩ = some (.int .i64 0) ∧ w'.cell? ⟨g, 3, none⟩ = some (.int .i64 1) ∧ w'.cell? ⟨g, 4, none⟩ = some (.int .i64 r0) ∧ w'.cell? ⟨g, 5, none⟩ = some (.int .i64 0) ∧ w'.cell? ⟨g, 6, none⟩ = some (.int .i64 5) ∧ w'.cell? ⟨g, 7, none⟩ = some (.int .i64 0) ∧ w'.cell? ⟨g, 8, none⟩ = some (.int .i64 u1)) (go_keep)
    (first | (go_at_call 20; refine (there2 _ _ 1 5 _ (by decide) (by decide) (by simp [*]) (by simp [*])).mono ?_; rintro e w' ⟨rfl, rfl⟩) | (go_at_call 16; refine (likeall3 _ _ _ _ 1 r0 0 1 r0 0 5 0 u1 1 r0 0 1 r0 0 5 0 u1 _ (by first | assumption | (simp [*]; done)) (by first | assumption | (simp [*]; done)) (by first | assumption | (simp [*]; done)) (by first | assumption | (simp [*]; done)) (by first | assumption | (simp [*]; done)) (by first | assumption | (simp [*]; done)) (by first | assumption | (simp [*]; done)) (by first | assumption | (simp [*]; done)) (by first | assumption | (simp [*]; done)) (by first | assumption | (simp [*]; done)) (by first | assumption | (simp [*]; done)) (by first | assumption | (simp [*]; done)) (by first | assumption | (simp [*]; done)) (by first | assumption | (simp [*]; done)) (by first | assumption | (simp [*]; done)) (by first | assumption | (simp [*]; done)) (by first | assumption | (simp [*]; done)) (by first | assumption | (simp [*]; done)) (like_reg r0) (like_reg r0) (like_55 u1)).mono ?_; rintro e w' ⟨rfl, hb9⟩; have nx0 : w'.cell? ⟨w2.heap.size, 0, none⟩ = some (.int .i64 1) := keepc hb9 (by simp [*]); have nx1 : w'.cell? ⟨w2.heap.size, 1, none⟩ = some (.int .i64 r0) := keepc hb9 (by simp [*]); have nx2 : w'.cell? ⟨w2.heap.size, 2, none⟩ = some (.int .i64 0) := keepc hb9 (by simp [*]); have nx3 : w'.cell? ⟨w2.heap.size, 3, none⟩ = some (.int .i64 5) := keepc hb9 (by simp [*]); have nx4 : w'.cell? ⟨w2.heap.size, 4, none⟩ = some (.int .i64 0) := keepc hb9 (by simp [*]); have nx5 : w'.cell? ⟨w2.heap.size, 5, none⟩ = some (.int .i64 u1) := keepc hb9 (by simp [*]); have nya : w'.cell? ⟨g, 0, none⟩ = some (.int .i64 1) := keepc hb9 (by simp [*]); have nyb : w'.cell? ⟨g, 1, none⟩ = some (.int .i64 r0) := keepc hb9 (by simp [*]); have nyc : w'.cell? ⟨g, 2, none⟩ = some (.int .i64 0) := keepc hb9 (by simp [*]); have nyd : w'.cell? ⟨g, 3, none⟩ = some (.int .i64 1) := keepc hb9 (by simp [*]); have nye : w'.cell? ⟨g, 4, none⟩ = some (.int .i64 r0) := keepc hb9 (by simp [*]); have nyf : w'.cell? ⟨g, 5, none⟩ = some (.int .i64 0) := keepc hb9 (by simp [*]); have nyg : w'.cell? ⟨g, 6, none⟩ = some (.int .i64 5) := keepc hb9 (by simp [*]); have nyh : w'.cell? ⟨g, 7, none⟩ = some (.int .i64 0) := keepc hb9 (by simp [*]); have nyi : w'.cell? ⟨g, 8, none⟩ = some (.int .i64 u1) := keepc hb9 (by simp [*])) | go_in)
  go_wp2_with fail
  go_ret
  exact ⟨rfl, chain (by (repeat' (first | (with_reducible exact Below.refl _ _) | (with_reducible assumption) | (with_reducible refine Below.alloc ?_ ?_ _) | (with_reducible refine below_drewN' ?_ _) | (with_reducible refine Below.drew ?_) | (with_reducible refine Below.setCell ?_ ?_ _) | go_size))) hb9⟩
theorem walk (a0 : Int) (w0 : (Lit.int .u32 a0).wf = true) (w : World) :
    Calls Try.prog 14 #[.int .u32 a0] w fun e w' => e = .returned (.bool true) ∧ Below w.heap.size w w' := by
  obtain ⟨b0, b1⟩ := bounds_u32 w0
  obtain ⟨n, rfl⟩ := Int.eq_ofNat_of_zero_le b0
  have hn : n < 4294967296 := by omega
  by_cases z0 : U1 n = 0
  · exact early0 n hn z0 w
  exact main n hn z0 w

set_option maxRecDepth 100000 in
theorem lifted (os : Os) (started : os.Started) (H : Type) (enc : TypeId × Value → H) :
    ReturnsInHanded {} Try.checked os 14 .any (Rows.fnConvertSrliSpec.pre6 enc Try.prog Try.f14 Rows.fnConvertSrliRow.domain false) (Rows.fnConvertSrliSpec.post enc Try.prog Try.f14 false true false false) := by
  refine returnsInHanded_of_change (C := Try.checked) own started (by kernel_rfl) Try.func14
    (ChangeSpec.witness6 (enc := enc) (C := Try.checked) false ⟨#[], #[.int .u32 0], []⟩ 8 (by kernel_rfl) (by kernel_rfl) (by kernel_rfl) (by kernel_rfl)) ?_
  intro W base args ds gs before hval0 hW hcnd _
  have hval : ∀ (j : Nat) t v, Try.f14.params[j]? = some t → args[j]? = some v → Value.okWide Try.prog W .any base t v := hval0
  have hW' := hW
  obtain ⟨p, q, hA0, hV, rfl, hfz, hnd⟩ := hW
  have hA : DataW.TrodAll enc Try.prog W 0 (fun _ => true) true Try.f14.params.toList args.toList ds p := hA0
  rw [Try.params14] at hA hval
  obtain ⟨v0, vs0, d0, ds0, p0, q0, hargs, rfl, rfl, h0, r0⟩ := trodAll_cons hA
  obtain ⟨rfl, rfl, rfl⟩ := trodAll_nil r0
  obtain rfl : args = #[v0] := by cases args; simp_all
  obtain ⟨rfl, rfl⟩ := trodVars_none hV
  obtain ⟨a0, rfl, rfl, rfl, w0⟩ := open_int Try.underlying22 (hval 0 22 v0 rfl rfl) h0
  clear hA0 hval0
  simp only [List.append_nil] at hW'
  refine (walk a0 w0 W).mono fun e W' ⟨he, hg⟩ => ?_
  subst he
  exact ⟨_, rfl, _, _, _, [], [], [], hW', (trodAll_cons_mk (shut_bool Try.underlying4 _) trodAll_mk0), (trodAll_cons_mk (shut_int Try.underlying22 w0) trodAll_mk0), rfl, hg.frame _, fun h => by cases h⟩

theorem over : Rows.fnConvertSrliRow.holds Try.pinned (OpenSpec.ofChange Rows.fnConvertSrliSpec) :=
  OpenClaim.holds_of_wide 14 Try.f14 rfl rfl rfl rfl rfl rfl rfl ⟨rfl, rfl, rfl, rfl, rfl⟩ rfl rfl rfl rfl rfl (by kernel_rfl) Try.func14 (by kernel_rfl)
    (of_decide_eq_true (by kernel_rfl)) (by unfold Func.isWrapper; first | (rw [if_pos (by decide +kernel)]; kernel_rfl) | (rw [if_neg (by decide +kernel)]; exact ⟨rfl, rfl⟩))
    (fun os started H enc _ => lifted os started H enc)

theorem proved : Rows.FnConvertSrliSaid :=
  over
#print axioms proved
end Go.Proofs.Ytjbbbjnhbdohoaa.fnConvertSrli
