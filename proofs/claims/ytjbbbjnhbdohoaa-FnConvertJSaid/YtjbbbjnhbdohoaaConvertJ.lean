/-
  'laws.FnConvertJ' returns true for every word of 32 bits. No condition.
-/
import Derived.Test.YtjbbbjnhbdohoaaRows
import Derived.Test.YtjbbbjnhbdohoaaQ
import Derived.Test.YtjbbbjnhbdohoaaBits
import Derived.Test.YtjbbbjnhbdohoaaFacts
import Derived.Test.YtjbbbjnhbdohoaaConv
import Derived.WalkKit
import Derived.WalkLawsBesides
import Derived.WalkSpells
import Derived.ProofKit
import Derived.OpenShut
import Derived.Handy
import Derived.RegionTactic
import Derived.ChangeAlike
import Derived.BigRegion
import Derived.Deep.RegionHeld3
import Derived.Deep.DeepMust
namespace Go.Proofs.Ytjbbbjnhbdohoaa.fnConvertJ
open Go Go.ChangeShapes Go.WideShapes Go.ChangeAt Go.RowKit Conv
set_option linter.unusedVariables false
theorem keepa {W : World} {b o : Nat} {v : Value} (ob : Obj) (h : W.cell? ⟨b, o, none⟩ = some v) : (W.alloc ob).cell? ⟨b, o, none⟩ = some v :=
  (World.cell?_alloc_some W _ ob (by rw [h]; rfl)).trans h
theorem newc (w : World) (c : Array Value) (t : TypeId) (n i : Nat) (v : Value) (hn : n = w.heap.size) (h : c[i]? = some v) : (w.alloc (.cells c t)).cell? ⟨n, i, none⟩ = some v :=
  (World.cell?_alloc_at c t n i hn).trans h
theorem keepd {W : World} {a : Addr} {v : Value} (h : W.cell? a = some v) : W.drew.cell? a = some v := h
theorem own : ownKnob Try.prog.godebug = none := by kernel_rfl
theorem mixed : Try.prog.follows .mixedOrders = true := by kernel_rfl

def U0 (n : Nat) : Nat := (((((((n / 2 ^ 2 % 2 ^ 1 * 2 ^ 5 ||| n / 2 ^ 2 % 2 ^ 4 * 2 ^ 1) ||| n / 2 ^ 6 % 2 ^ 1 * 2 ^ 7) ||| n / 2 ^ 7 % 2 ^ 1 * 2 ^ 6) ||| n / 2 ^ 8 % 2 ^ 1 * 2 ^ 10) ||| n / 2 ^ 9 % 2 ^ 2 * 2 ^ 8) ||| n / 2 ^ 11 % 2 ^ 1 * 2 ^ 4) ||| n / 2 ^ 12 % 2 ^ 1 * 2 ^ 11)
theorem fb0 (x l i : Nat) (h : l + i ≤ 12) : x % 2 ^ l * 2 ^ i < 2 ^ 12 :=
  Nat.lt_of_lt_of_le (Nat.mul_lt_mul_of_pos_right (Nat.mod_lt x (Nat.two_pow_pos l)) (Nat.two_pow_pos i)) (by rw [← Nat.pow_add]; exact Nat.pow_le_pow_right (by decide) h)
theorem oc0 {a b : Nat} (ha : a < 2 ^ 12) (hb : b < 2 ^ 12) : Ev.o (a : Int) (b : Int) = ((a ||| b : Nat) : Int) := Ev.o_cast a b (Nat.lt_of_lt_of_le ha (by decide)) (Nat.lt_of_lt_of_le hb (by decide))
theorem U0_lt (n : Nat) : U0 n < 2 ^ 12 := by
  have b1 : n / 2 ^ 2 % 2 ^ 1 * 2 ^ 5 < 2 ^ 12 := fb0 _ 1 5 (by decide)
  have b2 : n / 2 ^ 2 % 2 ^ 4 * 2 ^ 1 < 2 ^ 12 := fb0 _ 4 1 (by decide)
  have b3 : n / 2 ^ 6 % 2 ^ 1 * 2 ^ 7 < 2 ^ 12 := fb0 _ 1 7 (by decide)
  have b4 : n / 2 ^ 7 % 2 ^ 1 * 2 ^ 6 < 2 ^ 12 := fb0 _ 1 6 (by decide)
  have b5 : n / 2 ^ 8 % 2 ^ 1 * 2 ^ 10 < 2 ^ 12 := fb0 _ 1 10 (by decide)
  have b6 : n / 2 ^ 9 % 2 ^ 2 * 2 ^ 8 < 2 ^ 12 := fb0 _ 2 8 (by decide)
  have b7 : n / 2 ^ 11 % 2 ^ 1 * 2 ^ 4 < 2 ^ 12 := fb0 _ 1 4 (by decide)
  have b8 : n / 2 ^ 12 % 2 ^ 1 * 2 ^ 11 < 2 ^ 12 := fb0 _ 1 11 (by decide)
  exact Nat.or_lt_two_pow (Nat.or_lt_two_pow (Nat.or_lt_two_pow (Nat.or_lt_two_pow (Nat.or_lt_two_pow (Nat.or_lt_two_pow (Nat.or_lt_two_pow b1 b2) b3) b4) b5) b6) b7) b8
theorem imm0 (n : Nat) (hn : n < 4294967296) : (Ev.o (Ev.o (Ev.o (Ev.o (Ev.o (Ev.o (Ev.o (Ev.shl (Ev.shr (Ev.shl (n : Int) 29) 31) 5) (Ev.shl (Ev.shr (Ev.shl (n : Int) 26) 28) 1)) (Ev.shl (Ev.shr (Ev.shl (n : Int) 25) 31) 7)) (Ev.shl (Ev.shr (Ev.shl (n : Int) 24) 31) 6)) (Ev.shl (Ev.shr (Ev.shl (n : Int) 23) 31) 10)) (Ev.shl (Ev.shr (Ev.shl (n : Int) 21) 30) 8)) (Ev.shl (Ev.shr (Ev.shl (n : Int) 20) 31) 4)) (Ev.shl (Ev.shr (Ev.shl (n : Int) 19) 31) 11)) = ((U0 n : Nat) : Int) := by
  have b1 : n / 2 ^ 2 % 2 ^ 1 * 2 ^ 5 < 2 ^ 12 := fb0 _ 1 5 (by decide)
  have b2 : n / 2 ^ 2 % 2 ^ 4 * 2 ^ 1 < 2 ^ 12 := fb0 _ 4 1 (by decide)
  have b3 : n / 2 ^ 6 % 2 ^ 1 * 2 ^ 7 < 2 ^ 12 := fb0 _ 1 7 (by decide)
  have b4 : n / 2 ^ 7 % 2 ^ 1 * 2 ^ 6 < 2 ^ 12 := fb0 _ 1 6 (by decide)
  have b5 : n / 2 ^ 8 % 2 ^ 1 * 2 ^ 10 < 2 ^ 12 := fb0 _ 1 10 (by decide)
  have b6 : n / 2 ^ 9 % 2 ^ 2 * 2 ^ 8 < 2 ^ 12 := fb0 _ 2 8 (by decide)
  have b7 : n / 2 ^ 11 % 2 ^ 1 * 2 ^ 4 < 2 ^ 12 := fb0 _ 1 4 (by decide)
  have b8 : n / 2 ^ 12 % 2 ^ 1 * 2 ^ 11 < 2 ^ 12 := fb0 _ 1 11 (by decide)
  have t1 : (Ev.shl (Ev.shr (Ev.shl (n : Int) 29) 31) 5) = ((n / 2 ^ 2 % 2 ^ 1 * 2 ^ 5 : Nat) : Int) := Ev.T3 n 29 31 5 (by decide) (by decide) (by decide)
  have t2 : (Ev.shl (Ev.shr (Ev.shl (n : Int) 26) 28) 1) = ((n / 2 ^ 2 % 2 ^ 4 * 2 ^ 1 : Nat) : Int) := Ev.T3 n 26 28 1 (by decide) (by decide) (by decide)
  have t3 : (Ev.shl (Ev.shr (Ev.shl (n : Int) 25) 31) 7) = ((n / 2 ^ 6 % 2 ^ 1 * 2 ^ 7 : Nat) : Int) := Ev.T3 n 25 31 7 (by decide) (by decide) (by decide)
  have t4 : (Ev.shl (Ev.shr (Ev.shl (n : Int) 24) 31) 6) = ((n / 2 ^ 7 % 2 ^ 1 * 2 ^ 6 : Nat) : Int) := Ev.T3 n 24 31 6 (by decide) (by decide) (by decide)
  have t5 : (Ev.shl (Ev.shr (Ev.shl (n : Int) 23) 31) 10) = ((n / 2 ^ 8 % 2 ^ 1 * 2 ^ 10 : Nat) : Int) := Ev.T3 n 23 31 10 (by decide) (by decide) (by decide)
  have t6 : (Ev.shl (Ev.shr (Ev.shl (n : Int) 21) 30) 8) = ((n / 2 ^ 9 % 2 ^ 2 * 2 ^ 8 : Nat) : Int) := Ev.T3 n 21 30 8 (by decide) (by decide) (by decide)
  have t7 : (Ev.shl (Ev.shr (Ev.shl (n : Int) 20) 31) 4) = ((n / 2 ^ 11 % 2 ^ 1 * 2 ^ 4 : Nat) : Int) := Ev.T3 n 20 31 4 (by decide) (by decide) (by decide)
  have t8 : (Ev.shl (Ev.shr (Ev.shl (n : Int) 19) 31) 11) = ((n / 2 ^ 12 % 2 ^ 1 * 2 ^ 11 : Nat) : Int) := Ev.T3 n 19 31 11 (by decide) (by decide) (by decide)
  rw [t1, t2, t3, t4, t5, t6, t7, t8, oc0 b1 b2, oc0 (Nat.or_lt_two_pow b1 b2) b3, oc0 (Nat.or_lt_two_pow (Nat.or_lt_two_pow b1 b2) b3) b4, oc0 (Nat.or_lt_two_pow (Nat.or_lt_two_pow (Nat.or_lt_two_pow b1 b2) b3) b4) b5, oc0 (Nat.or_lt_two_pow (Nat.or_lt_two_pow (Nat.or_lt_two_pow (Nat.or_lt_two_pow b1 b2) b3) b4) b5) b6, oc0 (Nat.or_lt_two_pow (Nat.or_lt_two_pow (Nat.or_lt_two_pow (Nat.or_lt_two_pow (Nat.or_lt_two_pow b1 b2) b3) b4) b5) b6) b7, oc0 (Nat.or_lt_two_pow (Nat.or_lt_two_pow (Nat.or_lt_two_pow (Nat.or_lt_two_pow (Nat.or_lt_two_pow (Nat.or_lt_two_pow b1 b2) b3) b4) b5) b6) b7) b8]
  rfl
theorem dec0 (n : Nat) (hn : n < 4294967296) : Q.Gives Try.prog 44 #[.int .u16 58, .int .u32 (n : Int)] (.iface 52 (.agg #[.int .i32 (Ev.sgn 12 (U0 n)), .bool true, .int .u8 12])) := by
  have t := Ev.dec_test (U0 n) 12 (by decide) (U0_lt n)
  by_cases hs : 2 ^ (12 - 1) ≤ U0 n
  · have e : Q.run Try.prog 4 3 [(58, true)] 44 #[.int .u16 58, .int .u32 (n : Int)] = some (Value.iface 52 (.agg #[.int .i32 (IntKind.i32.wrap (Ev.o (Ev.o (Ev.o (Ev.o (Ev.o (Ev.o (Ev.o (Ev.o (Ev.shl (Ev.shr (Ev.shl (n : Int) 29) 31) 5) (Ev.shl (Ev.shr (Ev.shl (n : Int) 26) 28) 1)) (Ev.shl (Ev.shr (Ev.shl (n : Int) 25) 31) 7)) (Ev.shl (Ev.shr (Ev.shl (n : Int) 24) 31) 6)) (Ev.shl (Ev.shr (Ev.shl (n : Int) 23) 31) 10)) (Ev.shl (Ev.shr (Ev.shl (n : Int) 21) 30) 8)) (Ev.shl (Ev.shr (Ev.shl (n : Int) 20) 31) 4)) (Ev.shl (Ev.shr (Ev.shl (n : Int) 19) 31) 11)) 4294963200)), .bool true, .int .u8 12]), [((Ev.shr (Ev.o (Ev.o (Ev.o (Ev.o (Ev.o (Ev.o (Ev.o (Ev.shl (Ev.shr (Ev.shl (n : Int) 29) 31) 5) (Ev.shl (Ev.shr (Ev.shl (n : Int) 26) 28) 1)) (Ev.shl (Ev.shr (Ev.shl (n : Int) 25) 31) 7)) (Ev.shl (Ev.shr (Ev.shl (n : Int) 24) 31) 6)) (Ev.shl (Ev.shr (Ev.shl (n : Int) 23) 31) 10)) (Ev.shl (Ev.shr (Ev.shl (n : Int) 21) 30) 8)) (Ev.shl (Ev.shr (Ev.shl (n : Int) 20) 31) 4)) (Ev.shl (Ev.shr (Ev.shl (n : Int) 19) 31) 11)) 11 == 1), true)]) := by kernel_rfl
    rw [imm0 n hn] at e
    rw [show (IntKind.i32.wrap (Ev.o ((U0 n : Nat) : Int) 4294963200)) = Ev.sgn 12 (U0 n) from Ev.dec_neg (U0 n) 12 4294963200 (by decide) (by decide) (U0_lt n) (by decide) hs] at e
    exact Q.gives mixed e ⟨t.trans (decide_eq_true hs), trivial⟩
  · have e : Q.run Try.prog 4 3 [(58, false)] 44 #[.int .u16 58, .int .u32 (n : Int)] = some (Value.iface 52 (.agg #[.int .i32 (IntKind.i32.wrap (Ev.o (Ev.o (Ev.o (Ev.o (Ev.o (Ev.o (Ev.o (Ev.shl (Ev.shr (Ev.shl (n : Int) 29) 31) 5) (Ev.shl (Ev.shr (Ev.shl (n : Int) 26) 28) 1)) (Ev.shl (Ev.shr (Ev.shl (n : Int) 25) 31) 7)) (Ev.shl (Ev.shr (Ev.shl (n : Int) 24) 31) 6)) (Ev.shl (Ev.shr (Ev.shl (n : Int) 23) 31) 10)) (Ev.shl (Ev.shr (Ev.shl (n : Int) 21) 30) 8)) (Ev.shl (Ev.shr (Ev.shl (n : Int) 20) 31) 4)) (Ev.shl (Ev.shr (Ev.shl (n : Int) 19) 31) 11))), .bool true, .int .u8 12]), [((Ev.shr (Ev.o (Ev.o (Ev.o (Ev.o (Ev.o (Ev.o (Ev.o (Ev.shl (Ev.shr (Ev.shl (n : Int) 29) 31) 5) (Ev.shl (Ev.shr (Ev.shl (n : Int) 26) 28) 1)) (Ev.shl (Ev.shr (Ev.shl (n : Int) 25) 31) 7)) (Ev.shl (Ev.shr (Ev.shl (n : Int) 24) 31) 6)) (Ev.shl (Ev.shr (Ev.shl (n : Int) 23) 31) 10)) (Ev.shl (Ev.shr (Ev.shl (n : Int) 21) 30) 8)) (Ev.shl (Ev.shr (Ev.shl (n : Int) 20) 31) 4)) (Ev.shl (Ev.shr (Ev.shl (n : Int) 19) 31) 11)) 11 == 1), false)]) := by kernel_rfl
    rw [imm0 n hn] at e
    rw [show (IntKind.i32.wrap ((U0 n : Nat) : Int)) = Ev.sgn 12 (U0 n) from Ev.dec_pos (U0 n) 12 (by decide) (by decide) (U0_lt n) hs] at e
    exact Q.gives mixed e ⟨t.trans (decide_eq_false hs), trivial⟩
theorem num0 (n : Nat) (hn : n < 4294967296) : ∃ s0 : Int, (-2147483648 ≤ s0 ∧ s0 < 2147483648) ∧ Q.Gives Try.prog 44 #[.int .u16 58, .int .u32 (n : Int)] (.iface 52 (.agg #[.int .i32 s0, .bool true, .int .u8 12])) :=
  ⟨(Ev.sgn 12 (U0 n)), Ev.sgn_lo (U0 n) 12 (by decide) (by decide) (U0_lt n), dec0 n hn⟩
set_option maxRecDepth 100000 in
theorem arg0 (s0 : Int) (n : Nat) (h0 : -2147483648 ≤ s0) (h1 : s0 < 2147483648) (g : Q.Gives Try.prog 44 #[.int .u16 58, .int .u32 (n : Int)] (.iface 52 (.agg #[.int .i32 s0, .bool true, .int .u8 12]))) (w : World) : Calls Try.prog 19 #[.int .u32 (n : Int)] w fun e w' => e = .returned (.agg #[.int .i64 4, .int .i64 0, .int .i64 s0]) ∧ Below w.heap.size w w' := by
  have d : ∀ w, Calls _ _ _ w _ := g
  clear g
  go_enter Try.func19, Try.ntmps19
  go_wp2_with (first | (go_at_call 44; ((with_reducible refine (d _).mono ?_); rintro e w' ⟨rfl, m, rfl⟩)) | go_in)
  go_returns
  exact ⟨rfl, (by (repeat' (first | (with_reducible exact Below.refl _ _) | (with_reducible assumption) | (with_reducible refine Below.alloc ?_ ?_ _) | (with_reducible refine below_drewN' ?_ _) | (with_reducible refine Below.drew ?_) | (with_reducible refine Below.setCell ?_ ?_ _) | go_size)))⟩
theorem any0 (n : Nat) (hn : n < 4294967296) (w : World) : Calls Try.prog 19 #[.int .u32 (n : Int)] w fun e w' => ∃ k r t : Int, e = .returned (.agg #[.int .i64 k, .int .i64 r, .int .i64 t]) ∧ Below w.heap.size w w' := by
  obtain ⟨x, ⟨h0, h1⟩, g⟩ := num0 n hn
  exact (arg0 x n h0 h1 g w).mono fun e w' h => ⟨_, _, _, h⟩
set_option maxRecDepth 100000 in
set_option maxHeartbeats 4000000 in
theorem zz (s0 : Int) (lo_s0 : -2147483648 ≤ s0) (hi_s0 : s0 < 2147483648) (w : World) : Calls Try.prog 40 #[.int .u16 132, .agg #[(.iface 52 (.agg #[.int .i32 s0, .bool true, .int .u8 12])), .nilIface, .nilIface, .nilIface, .nilIface, .nilIface]] w fun e w' => e = .returned (.tuple #[.int .u16 289, .agg #[(.iface 50 (.int .u16 0)), (.iface 52 (.agg #[.int .i32 s0, .bool true, .int .u8 21])), .nilIface, .nilIface, .nilIface, .nilIface]]) ∧ Below w.heap.size w w' := by
  go_enter Try.func40, Try.ntmps40
  go_wp2
  all_goals (try go_region)
  all_goals go_wp2
  all_goals (try go_region)
  all_goals go_wp2
  all_goals go_returns
  all_goals (refine ⟨rfl, ?_⟩)
  all_goals (repeat' (first | (with_reducible exact Below.refl _ _) | (with_reducible assumption) | (with_reducible refine Below.alloc ?_ ?_ _) | (with_reducible refine below_drewN' ?_ _) | (with_reducible refine Below.drew ?_) | (with_reducible refine Below.setCell ?_ ?_ _) | go_size))
set_option maxRecDepth 100000 in
set_option maxHeartbeats 1000000 in
theorem turned (s0 : Int) (lo_s0 : -2147483648 ≤ s0) (hi_s0 : s0 < 2147483648) (b cap : Nat) (w : World) (x0 : w.cell? ⟨b, 0, none⟩ = some (.int .i64 4)) (x1 : w.cell? ⟨b, 1, none⟩ = some (.int .i64 0)) (x2 : w.cell? ⟨b, 2, none⟩ = some (.int .i64 s0)) : Calls Try.prog 15 #[.int .i64 132, .slice (some ⟨b, 0, none⟩) 1 cap] w
    fun e w' => ∃ g cap', e = .returned (.tuple #[.int .i64 289, .slice (some ⟨g, 0, none⟩) 2 cap']) ∧ RowAt w' g [.int .i64 1, .int .i64 0, .int .i64 0, .int .i64 4, .int .i64 0, .int .i64 s0] ∧ Below w.heap.size w w' := by
  have hbs : b < w.heap.size := World.block_lt_of_cell? w _ x0
  have hl1 : b < w.heap.size + 1 := by omega
  have hl2 : b < w.heap.size + 1 + 1 := by omega
  have hl3 : b < w.heap.size + 1 + 1 + 1 := by omega
  have hl4 : b < w.heap.size + 1 + 1 + 1 + 1 := by omega
  have hl5 : b < w.heap.size + 1 + 1 + 1 + 1 + 1 := by omega
  have hl6 : b < w.heap.size + 1 + 1 + 1 + 1 + 1 + 1 := by omega
  have nb0 : b ≠ w.heap.size := by omega
  have nb1 : b ≠ w.heap.size + 1 := by omega
  have nb2 : b ≠ w.heap.size + 1 + 1 := by omega
  have nb3 : b ≠ w.heap.size + 1 + 1 + 1 := by omega
  have nb4 : b ≠ w.heap.size + 1 + 1 + 1 + 1 := by omega
  have nb5 : b ≠ w.heap.size + 1 + 1 + 1 + 1 + 1 := by omega
  have nb6 : b ≠ w.heap.size + 1 + 1 + 1 + 1 + 1 + 1 := by omega
  go_enter Try.func15, Try.ntmps15
  go_wp2_with fail
  refine wp_loop_rounds 2 ?_
  rw [rounds_succ]
  go_wp2_with (first | (go_at_call 40; go_must ((refine (zz s0 lo_s0 hi_s0 _).mono ?_); rintro e w1 ⟨rfl, hb1⟩; have B1 : Below w.heap.size w w1 := chain (by (repeat' (first | (with_reducible exact Below.refl _ _) | (with_reducible assumption) | (with_reducible refine Below.alloc ?_ ?_ _) | (with_reducible refine below_drewN' ?_ _) | (with_reducible refine Below.drew ?_) | (with_reducible refine Below.setCell ?_ ?_ _) | go_size))) hb1; have S1 := B1.size; clear hb1)) | (go_at_call 41; go_must ((refine (listed_rs21 0 s0 (by omega) (by omega) (by omega) (by omega) _).mono ?_); rintro e w2 ⟨g, cap', rfl, hrow, hb2⟩; have B2 : Below w.heap.size w w2 := chain (by (repeat' (first | (with_reducible exact Below.refl _ _) | (with_reducible assumption) | (with_reducible refine Below.alloc ?_ ?_ _) | (with_reducible refine below_drewN' ?_ _) | (with_reducible refine Below.drew ?_) | (with_reducible refine Below.setCell ?_ ?_ _) | go_size))) hb2; clear hb2)) | go_in)
  rw [rounds_succ]
  go_wp2_with (first | (go_at_call 40; go_must ((refine (zz s0 lo_s0 hi_s0 _).mono ?_); rintro e w1 ⟨rfl, hb1⟩; have B1 : Below w.heap.size w w1 := chain (by (repeat' (first | (with_reducible exact Below.refl _ _) | (with_reducible assumption) | (with_reducible refine Below.alloc ?_ ?_ _) | (with_reducible refine below_drewN' ?_ _) | (with_reducible refine Below.drew ?_) | (with_reducible refine Below.setCell ?_ ?_ _) | go_size))) hb1; have S1 := B1.size; clear hb1)) | (go_at_call 41; go_must ((refine (listed_rs21 0 s0 (by omega) (by omega) (by omega) (by omega) _).mono ?_); rintro e w2 ⟨g, cap', rfl, hrow, hb2⟩; have B2 : Below w.heap.size w w2 := chain (by (repeat' (first | (with_reducible exact Below.refl _ _) | (with_reducible assumption) | (with_reducible refine Below.alloc ?_ ?_ _) | (with_reducible refine below_drewN' ?_ _) | (with_reducible refine Below.drew ?_) | (with_reducible refine Below.setCell ?_ ?_ _) | go_size))) hb2; clear hb2)) | go_in)
  go_ret2
  exact ⟨g, cap', rfl, hrow, B2⟩
set_option maxRecDepth 100000 in
set_option maxHeartbeats 4000000 in
theorem main (n : Nat) (hn : n < 4294967296) (w : World) : Calls Try.prog 4 #[.int .u32 (n : Int)] w fun e w' => e = .returned (.bool true) ∧ Below w.heap.size w w' := by
  obtain ⟨s0, ⟨lo_s0, hi_s0⟩, g0⟩ := num0 n hn
  have a0 := arg0 s0 n lo_s0 hi_s0 g0
  clear g0
  go_enter Try.func4, Try.ntmps4
  go_wp2_with (first | (go_at_call 19; ((with_reducible refine (a0 _).mono ?_); rintro e w1 ⟨rfl, hb1⟩; have B1 : Below w.heap.size w w1 := chain (by (repeat' (first | (with_reducible exact Below.refl _ _) | (with_reducible assumption) | (with_reducible refine Below.alloc ?_ ?_ _) | (with_reducible refine below_drewN' ?_ _) | (with_reducible refine Below.drew ?_) | (with_reducible refine Below.setCell ?_ ?_ _) | go_size))) hb1; have S1 := B1.size; clear hb1)) | (go_at_call 15; go_must ((refine (turned s0 lo_s0 hi_s0 _ _ _ (by simp) (by simp) (by simp)).mono ?_); rintro e w2 ⟨g, cap', rfl, hrow, hb2⟩; have x0 : w2.cell? ⟨w1.heap.size, 0, none⟩ = some (.int .i64 4) := keepc hb2 (by simp); have x1 : w2.cell? ⟨w1.heap.size, 1, none⟩ = some (.int .i64 0) := keepc hb2 (by simp); have x2 : w2.cell? ⟨w1.heap.size, 2, none⟩ = some (.int .i64 s0) := keepc hb2 (by simp); have ya : w2.cell? ⟨g, 0, none⟩ = some (.int .i64 1) := hrow 0 _ rfl; have yb : w2.cell? ⟨g, 1, none⟩ = some (.int .i64 0) := hrow 1 _ rfl; have yc : w2.cell? ⟨g, 2, none⟩ = some (.int .i64 0) := hrow 2 _ rfl; have yd : w2.cell? ⟨g, 3, none⟩ = some (.int .i64 4) := hrow 3 _ rfl; have ye : w2.cell? ⟨g, 4, none⟩ = some (.int .i64 0) := hrow 4 _ rfl; have yf : w2.cell? ⟨g, 5, none⟩ = some (.int .i64 s0) := hrow 5 _ rfl; clear hrow; have B2 : Below w.heap.size w w2 := chain (by (repeat' (first | (with_reducible exact Below.refl _ _) | (with_reducible assumption) | (with_reducible refine Below.alloc ?_ ?_ _) | (with_reducible refine below_drewN' ?_ _) | (with_reducible refine Below.drew ?_) | (with_reducible refine Below.setCell ?_ ?_ _) | go_size))) hb2; have S2 := B2.size; clear hb2)))
  go_region_held3 (fun w' => w'.cell? ⟨w1.heap.size, 0, none⟩ = some (.int .i64 4) ∧ w'.cell? ⟨w1.heap.size, 1, none⟩ = some (.int .i64 0) ∧ w'.cell? ⟨w1.heap.size, 2, none⟩ = some (.int .i64 s0) ∧ w'.cell? ⟨g, 0, none⟩ = some (.int .i64 1) ∧ w'.cell? ⟨g, 1, none⟩ = some (.int .i64 0) ∧ w'.cell? ⟨g, 2, none⟩ = some (.int .i64 0) ∧ w'.cell? ⟨g, 3, none⟩ = some (.int .i64 4) ∧ w'.cell? ⟨g, 4, none⟩ = some (.int .i64 0) ∧ w'.cell? ⟨g, 5, none⟩ = some (.int .i64 s0)) (first | (repeat' (first | assumption | (with_reducible refine And.intro ?_ ?_) | (with_reducible refine keepd ?_) | (with_reducible refine keepa _ ?_))) | go_keep)
    (first | (go_at_call 20; refine (there1 _ _ 4 _ (by decide) (by simp [*])).mono ?_; rintro e w' ⟨rfl, rfl⟩) | (go_at_call 16; refine (likeall2 _ _ _ _ 1 0 0 4 0 s0 1 0 0 4 0 s0 _ (by (repeat' (first | (with_reducible assumption) | (with_reducible refine keepd ?_) | ((with_reducible refine newc _ _ _ _ _ _ ?_ ?_) <;> (simp; done)) | (with_reducible refine keepa _ ?_)))) (by (repeat' (first | (with_reducible assumption) | (with_reducible refine keepd ?_) | ((with_reducible refine newc _ _ _ _ _ _ ?_ ?_) <;> (simp; done)) | (with_reducible refine keepa _ ?_)))) (by (repeat' (first | (with_reducible assumption) | (with_reducible refine keepd ?_) | ((with_reducible refine newc _ _ _ _ _ _ ?_ ?_) <;> (simp; done)) | (with_reducible refine keepa _ ?_)))) (by (repeat' (first | (with_reducible assumption) | (with_reducible refine keepd ?_) | ((with_reducible refine newc _ _ _ _ _ _ ?_ ?_) <;> (simp; done)) | (with_reducible refine keepa _ ?_)))) (by (repeat' (first | (with_reducible assumption) | (with_reducible refine keepd ?_) | ((with_reducible refine newc _ _ _ _ _ _ ?_ ?_) <;> (simp; done)) | (with_reducible refine keepa _ ?_)))) (by (repeat' (first | (with_reducible assumption) | (with_reducible refine keepd ?_) | ((with_reducible refine newc _ _ _ _ _ _ ?_ ?_) <;> (simp; done)) | (with_reducible refine keepa _ ?_)))) (by (repeat' (first | (with_reducible assumption) | (with_reducible refine keepd ?_) | ((with_reducible refine newc _ _ _ _ _ _ ?_ ?_) <;> (simp; done)) | (with_reducible refine keepa _ ?_)))) (by (repeat' (first | (with_reducible assumption) | (with_reducible refine keepd ?_) | ((with_reducible refine newc _ _ _ _ _ _ ?_ ?_) <;> (simp; done)) | (with_reducible refine keepa _ ?_)))) (by (repeat' (first | (with_reducible assumption) | (with_reducible refine keepd ?_) | ((with_reducible refine newc _ _ _ _ _ _ ?_ ?_) <;> (simp; done)) | (with_reducible refine keepa _ ?_)))) (by (repeat' (first | (with_reducible assumption) | (with_reducible refine keepd ?_) | ((with_reducible refine newc _ _ _ _ _ _ ?_ ?_) <;> (simp; done)) | (with_reducible refine keepa _ ?_)))) (by (repeat' (first | (with_reducible assumption) | (with_reducible refine keepd ?_) | ((with_reducible refine newc _ _ _ _ _ _ ?_ ?_) <;> (simp; done)) | (with_reducible refine keepa _ ?_)))) (by (repeat' (first | (with_reducible assumption) | (with_reducible refine keepd ?_) | ((with_reducible refine newc _ _ _ _ _ _ ?_ ?_) <;> (simp; done)) | (with_reducible refine keepa _ ?_)))) (like_reg 0) (like_44 s0)).mono ?_; rintro e w' ⟨rfl, hb9⟩; have nx0 : w'.cell? ⟨w1.heap.size, 0, none⟩ = some (.int .i64 4) := keepc hb9 (by (repeat' (first | (with_reducible assumption) | (with_reducible refine keepd ?_) | ((with_reducible refine newc _ _ _ _ _ _ ?_ ?_) <;> (simp; done)) | (with_reducible refine keepa _ ?_)))); have nx1 : w'.cell? ⟨w1.heap.size, 1, none⟩ = some (.int .i64 0) := keepc hb9 (by (repeat' (first | (with_reducible assumption) | (with_reducible refine keepd ?_) | ((with_reducible refine newc _ _ _ _ _ _ ?_ ?_) <;> (simp; done)) | (with_reducible refine keepa _ ?_)))); have nx2 : w'.cell? ⟨w1.heap.size, 2, none⟩ = some (.int .i64 s0) := keepc hb9 (by (repeat' (first | (with_reducible assumption) | (with_reducible refine keepd ?_) | ((with_reducible refine newc _ _ _ _ _ _ ?_ ?_) <;> (simp; done)) | (with_reducible refine keepa _ ?_)))); have nya : w'.cell? ⟨g, 0, none⟩ = some (.int .i64 1) := keepc hb9 (by (repeat' (first | (with_reducible assumption) | (with_reducible refine keepd ?_) | ((with_reducible refine newc _ _ _ _ _ _ ?_ ?_) <;> (simp; done)) | (with_reducible refine keepa _ ?_)))); have nyb : w'.cell? ⟨g, 1, none⟩ = some (.int .i64 0) := keepc hb9 (by (repeat' (first | (with_reducible assumption) | (with_reducible refine keepd ?_) | ((with_reducible refine newc _ _ _ _ _ _ ?_ ?_) <;> (simp; done)) | (with_reducible refine keepa _ ?_)))); have nyc : w'.cell? ⟨g, 2, none⟩ = some (.int .i64 0) := keepc hb9 (by (repeat' (first | (with_reducible assumption) | (with_reducible refine keepd ?_) | ((with_reducible refine newc _ _ _ _ _ _ ?_ ?_) <;> (simp; done)) | (with_reducible refine keepa _ ?_)))); have nyd : w'.cell? ⟨g, 3, none⟩ = some (.int .i64 4) := keepc hb9 (by (repeat' (first | (with_reducible assumption) | (with_reducible refine keepd ?_) | ((with_reducible refine newc _ _ _ _ _ _ ?_ ?_) <;> (simp; done)) | (with_reducible refine keepa _ ?_)))); have nye : w'.cell? ⟨g, 4, none⟩ = some (.int .i64 0) := keepc hb9 (by (repeat' (first | (with_reducible assumption) | (with_reducible refine keepd ?_) | ((with_reducible refine newc _ _ _ _ _ _ ?_ ?_) <;> (simp; done)) | (with_reducible refine keepa _ ?_)))); have nyf : w'.cell? ⟨g, 5, none⟩ = some (.int .i64 s0) := keepc hb9 (by (repeat' (first | (with_reducible assumption) | (with_reducible refine keepd ?_) | ((with_reducible refine newc _ _ _ _ _ _ ?_ ?_) <;> (simp; done)) | (with_reducible refine keepa _ ?_))))) | go_in)
  go_wp2_with fail
  go_ret
  exact ⟨rfl, chain (by (repeat' (first | (with_reducible exact Below.refl _ _) | (with_reducible assumption) | (with_reducible refine Below.alloc ?_ ?_ _) | (with_reducible refine below_drewN' ?_ _) | (with_reducible refine Below.drew ?_) | (with_reducible refine Below.setCell ?_ ?_ _) | go_size))) hb9⟩
theorem walk (a0 : Int) (w0 : (Lit.int .u32 a0).wf = true) (w : World) :
    Calls Try.prog 4 #[.int .u32 a0] w fun e w' => e = .returned (.bool true) ∧ Below w.heap.size w w' := by
  obtain ⟨b0, b1⟩ := bounds_u32 w0
  obtain ⟨n, rfl⟩ := Int.eq_ofNat_of_zero_le b0
  have hn : n < 4294967296 := by omega
  exact main n hn w

set_option maxRecDepth 100000 in
theorem lifted (os : Os) (started : os.Started) (H : Type) (enc : TypeId × Value → H) :
    ReturnsInHanded {} Try.checked os 4 .any (Rows.fnConvertJSpec.pre6 enc Try.prog Try.f4 Rows.fnConvertJRow.domain false) (Rows.fnConvertJSpec.post enc Try.prog Try.f4 false true false false) := by
  refine returnsInHanded_of_change (C := Try.checked) own started (by kernel_rfl) Try.func4
    (ChangeSpec.witness6 (enc := enc) (C := Try.checked) false ⟨#[], #[.int .u32 0], []⟩ 8 (by kernel_rfl) (by kernel_rfl) (by kernel_rfl) (by kernel_rfl)) ?_
  intro W base args ds gs before hval0 hW hcnd _
  have hval : ∀ (j : Nat) t v, Try.f4.params[j]? = some t → args[j]? = some v → Value.okWide Try.prog W .any base t v := hval0
  have hW' := hW
  obtain ⟨p, q, hA0, hV, rfl, hfz, hnd⟩ := hW
  have hA : DataW.TrodAll enc Try.prog W 0 (fun _ => true) true Try.f4.params.toList args.toList ds p := hA0
  rw [Try.params4] at hA hval
  obtain ⟨v0, vs0, d0, ds0, p0, q0, hargs, rfl, rfl, h0, r0⟩ := trodAll_cons hA
  obtain ⟨rfl, rfl, rfl⟩ := trodAll_nil r0
  obtain rfl : args = #[v0] := by cases args; simp_all
  obtain ⟨rfl, rfl⟩ := trodVars_none hV
  obtain ⟨a0, rfl, rfl, rfl, w0⟩ := open_int Try.underlying22 (hval 0 22 v0 rfl rfl) h0
  clear hA0 hval0
  simp only [List.append_nil] at hW'
  refine (walk a0 w0 W).mono fun e W' ⟨he, hg⟩ => ?_
  subst he
  exact ⟨_, rfl, _, _, _, [], [], [], hW', (trodAll_cons_mk (shut_bool Try.underlying4 _) trodAll_mk0), (trodAll_cons_mk (shut_int Try.underlying22 w0) trodAll_mk0), rfl, hg.frame _, fun h => by cases h⟩

theorem over : Rows.fnConvertJRow.holds Try.pinned (OpenSpec.ofChange Rows.fnConvertJSpec) :=
  OpenClaim.holds_of_wide 4 Try.f4 rfl rfl rfl rfl rfl rfl rfl ⟨rfl, rfl, rfl, rfl, rfl⟩ rfl rfl rfl rfl rfl (by kernel_rfl) Try.func4 (by kernel_rfl)
    (of_decide_eq_true (by kernel_rfl)) (by unfold Func.isWrapper; first | (rw [if_pos (by decide +kernel)]; kernel_rfl) | (rw [if_neg (by decide +kernel)]; exact ⟨rfl, rfl⟩))
    (fun os started H enc _ => lifted os started H enc)

theorem proved : Rows.FnConvertJSaid :=
  over
#print axioms proved
end Go.Proofs.Ytjbbbjnhbdohoaa.fnConvertJ
