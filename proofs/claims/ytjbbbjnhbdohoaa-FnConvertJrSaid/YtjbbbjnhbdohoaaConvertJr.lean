/-
  'laws.FnConvertJr' returns true for every word of 32 bits. No condition.
-/
import Derived.Test.YtjbbbjnhbdohoaaRows
import Derived.Test.YtjbbbjnhbdohoaaQ
import Derived.Test.YtjbbbjnhbdohoaaBits
import Derived.Test.YtjbbbjnhbdohoaaFacts
import Derived.Test.YtjbbbjnhbdohoaaConv
import Derived.WalkKit
import Derived.WalkLawsBesides
import Derived.WalkSpells
import Derived.ProofKit
import Derived.OpenShut
import Derived.Handy
import Derived.RegionTactic
import Derived.ChangeAlike
import Derived.BigRegion
import Derived.Deep.RegionHeld3
import Derived.Deep.DeepMust
namespace Go.Proofs.Ytjbbbjnhbdohoaa.fnConvertJr
open Go Go.ChangeShapes Go.WideShapes Go.ChangeAt Go.RowKit Conv
set_option linter.unusedVariables false
theorem keepa {W : World} {b o : Nat} {v : Value} (ob : Obj) (h : W.cell? ⟨b, o, none⟩ = some v) : (W.alloc ob).cell? ⟨b, o, none⟩ = some v :=
  (World.cell?_alloc_some W _ ob (by rw [h]; rfl)).trans h
theorem newc (w : World) (c : Array Value) (t : TypeId) (n i : Nat) (v : Value) (hn : n = w.heap.size) (h : c[i]? = some v) : (w.alloc (.cells c t)).cell? ⟨n, i, none⟩ = some v :=
  (World.cell?_alloc_at c t n i hn).trans h
theorem keepd {W : World} {a : Addr} {v : Value} (h : W.cell? a = some v) : W.drew.cell? a = some v := h
theorem own : ownKnob Try.prog.godebug = none := by kernel_rfl
theorem mixed : Try.prog.follows .mixedOrders = true := by kernel_rfl

theorem dec0 (n : Nat) (hn : n < 4294967296) (hz : ¬ n / 2 ^ 7 % 2 ^ 5 = 0) : Q.Gives Try.prog 44 #[.int .u16 39, .int .u32 (n : Int)] (.iface 50 (.int .u16 (((n / 2 ^ 7 % 2 ^ 5 : Nat) : Int)))) := by
  have e : Q.run Try.prog 4 3 [] 44 #[.int .u16 39, .int .u32 (n : Int)] = (bif ((IntKind.u16.wrap (0 + (IntKind.u16.wrap (Ev.an (Ev.shr (n : Int) 7) 31)))) == 0) then some (Value.nilIface, []) else some ((Value.iface 50 (.int .u16 (IntKind.u16.wrap (0 + (IntKind.u16.wrap (Ev.an (Ev.shr (n : Int) 7) 31)))))), [])) := by kernel_rfl
  have r : (IntKind.u16.wrap (0 + (IntKind.u16.wrap (Ev.an (Ev.shr (n : Int) 7) 31)))) = ((0 + n / 2 ^ 7 % 2 ^ 5 : Nat) : Int) := Ev.reg n 7 5 31 0 (by decide) (by decide) hn (by decide)
  rw [r] at e
  generalize n / 2 ^ 7 % 2 ^ 5 = q at *
  have c : (((0 + q : Nat) : Int) == 0) = false := by rw [beq_eq_false_iff_ne]; omega
  rw [c] at e
  refine Q.Gives.eq (Q.gives mixed e trivial) ?_
  simp
theorem decz0 (n : Nat) (hn : n < 4294967296) (hz : n / 2 ^ 7 % 2 ^ 5 = 0) : Q.Gives Try.prog 44 #[.int .u16 39, .int .u32 (n : Int)] .nilIface := by
  have e : Q.run Try.prog 4 3 [] 44 #[.int .u16 39, .int .u32 (n : Int)] = (bif ((IntKind.u16.wrap (0 + (IntKind.u16.wrap (Ev.an (Ev.shr (n : Int) 7) 31)))) == 0) then some (Value.nilIface, []) else some ((Value.iface 50 (.int .u16 (IntKind.u16.wrap (0 + (IntKind.u16.wrap (Ev.an (Ev.shr (n : Int) 7) 31)))))), [])) := by kernel_rfl
  have r : (IntKind.u16.wrap (0 + (IntKind.u16.wrap (Ev.an (Ev.shr (n : Int) 7) 31)))) = ((0 + n / 2 ^ 7 % 2 ^ 5 : Nat) : Int) := Ev.reg n 7 5 31 0 (by decide) (by decide) hn (by decide)
  rw [r, hz] at e
  exact Q.gives mixed e trivial
theorem num0 (n : Nat) (hn : n < 4294967296) (hz : ¬ n / 2 ^ 7 % 2 ^ 5 = 0) : ∃ r0 : Int, (0 ≤ r0 ∧ r0 < 65536) ∧ Q.Gives Try.prog 44 #[.int .u16 39, .int .u32 (n : Int)] (.iface 50 (.int .u16 r0)) :=
  ⟨((n / 2 ^ 7 % 2 ^ 5 : Nat) : Int), ⟨by omega, by omega⟩, dec0 n hn hz⟩
set_option maxRecDepth 100000 in
theorem arg0 (r0 : Int) (n : Nat) (h0 : 0 ≤ r0) (h1 : r0 < 65536) (g : Q.Gives Try.prog 44 #[.int .u16 39, .int .u32 (n : Int)] (.iface 50 (.int .u16 r0))) (w : World) : Calls Try.prog 21 #[.int .u32 (n : Int)] w fun e w' => e = .returned (.agg #[.int .i64 1, .int .i64 r0, .int .i64 0]) ∧ Below w.heap.size w w' := by
  have d : ∀ w, Calls _ _ _ w _ := g
  clear g
  go_enter Try.func21, Try.ntmps21
  go_wp2_with (first | (go_at_call 44; ((with_reducible refine (d _).mono ?_); rintro e w' ⟨rfl, m, rfl⟩)) | go_in)
  go_returns
  exact ⟨rfl, (by (repeat' (first | (with_reducible exact Below.refl _ _) | (with_reducible assumption) | (with_reducible refine Below.alloc ?_ ?_ _) | (with_reducible refine below_drewN' ?_ _) | (with_reducible refine Below.drew ?_) | (with_reducible refine Below.setCell ?_ ?_ _) | go_size)))⟩
set_option maxRecDepth 100000 in
theorem none0 (n : Nat) (hn : n < 4294967296) (hz : n / 2 ^ 7 % 2 ^ 5 = 0) (w : World) : Calls Try.prog 21 #[.int .u32 (n : Int)] w fun e w' => e = .returned (.agg #[.int .i64 0, .int .i64 0, .int .i64 0]) ∧ Below w.heap.size w w' := by
  have d : ∀ w, Calls _ _ _ w _ := decz0 n hn hz
  go_enter Try.func21, Try.ntmps21
  go_wp2_with (first | (go_at_call 44; ((with_reducible refine (d _).mono ?_); rintro e w' ⟨rfl, m, rfl⟩)) | go_in)
  go_returns
  exact ⟨rfl, (by (repeat' (first | (with_reducible exact Below.refl _ _) | (with_reducible assumption) | (with_reducible refine Below.alloc ?_ ?_ _) | (with_reducible refine below_drewN' ?_ _) | (with_reducible refine Below.drew ?_) | (with_reducible refine Below.setCell ?_ ?_ _) | go_size)))⟩
theorem any0 (n : Nat) (hn : n < 4294967296) (w : World) : Calls Try.prog 21 #[.int .u32 (n : Int)] w fun e w' => ∃ k r t : Int, e = .returned (.agg #[.int .i64 k, .int .i64 r, .int .i64 t]) ∧ Below w.heap.size w w' := by
  by_cases hz : n / 2 ^ 7 % 2 ^ 5 = 0
  · exact (none0 n hn hz w).mono fun e w' h => ⟨0, 0, 0, h⟩
  · obtain ⟨x, ⟨h0, h1⟩, g⟩ := num0 n hn hz
    exact (arg0 x n h0 h1 g w).mono fun e w' h => ⟨_, _, _, h⟩
set_option maxRecDepth 100000 in
set_option maxHeartbeats 4000000 in
theorem zz (r0 : Int) (lo_r0 : 0 ≤ r0) (hi_r0 : r0 < 65536) (w : World) : Calls Try.prog 40 #[.int .u16 134, .agg #[(.iface 50 (.int .u16 r0)), .nilIface, .nilIface, .nilIface, .nilIface, .nilIface]] w fun e w' => e = .returned (.tuple #[.int .u16 290, .agg #[(.iface 50 (.int .u16 0)), (.iface 54 (.agg #[.int .u16 r0, .int .i32 0, .bool true, .int .u8 12])), .nilIface, .nilIface, .nilIface, .nilIface]]) ∧ Below w.heap.size w w' := by
  go_enter Try.func40, Try.ntmps40
  go_wp2
  all_goals (try go_region)
  all_goals go_wp2
  all_goals (try go_region)
  all_goals go_wp2
  all_goals go_returns
  all_goals (refine ⟨rfl, ?_⟩)
  all_goals (repeat' (first | (with_reducible exact Below.refl _ _) | (with_reducible assumption) | (with_reducible refine Below.alloc ?_ ?_ _) | (with_reducible refine below_drewN' ?_ _) | (with_reducible refine Below.drew ?_) | (with_reducible refine Below.setCell ?_ ?_ _) | go_size))
set_option maxRecDepth 100000 in
set_option maxHeartbeats 1000000 in
theorem turned (r0 : Int) (lo_r0 : 0 ≤ r0) (hi_r0 : r0 < 65536) (b cap : Nat) (w : World) (x0 : w.cell? ⟨b, 0, none⟩ = some (.int .i64 1)) (x1 : w.cell? ⟨b, 1, none⟩ = some (.int .i64 r0)) (x2 : w.cell? ⟨b, 2, none⟩ = some (.int .i64 0)) : Calls Try.prog 15 #[.int .i64 134, .slice (some ⟨b, 0, none⟩) 1 cap] w
    fun e w' => ∃ g cap', e = .returned (.tuple #[.int .i64 290, .slice (some ⟨g, 0, none⟩) 2 cap']) ∧ RowAt w' g [.int .i64 1, .int .i64 0, .int .i64 0, .int .i64 3, .int .i64 r0, .int .i64 0] ∧ Below w.heap.size w w' := by
  have hbs : b < w.heap.size := World.block_lt_of_cell? w _ x0
  have hl1 : b < w.heap.size + 1 := by omega
  have hl2 : b < w.heap.size + 1 + 1 := by omega
  have hl3 : b < w.heap.size + 1 + 1 + 1 := by omega
  have hl4 : b < w.heap.size + 1 + 1 + 1 + 1 := by omega
  have hl5 : b < w.heap.size + 1 + 1 + 1 + 1 + 1 := by omega
  have hl6 : b < w.heap.size + 1 + 1 + 1 + 1 + 1 + 1 := by omega
  have nb0 : b ≠ w.heap.size := by omega
  have nb1 : b ≠ w.heap.size + 1 := by omega
  have nb2 : b ≠ w.heap.size + 1 + 1 := by omega
  have nb3 : b ≠ w.heap.size + 1 + 1 + 1 := by omega
  have nb4 : b ≠ w.heap.size + 1 + 1 + 1 + 1 := by omega
  have nb5 : b ≠ w.heap.size + 1 + 1 + 1 + 1 + 1 := by omega
  have nb6 : b ≠ w.heap.size + 1 + 1 + 1 + 1 + 1 + 1 := by omega
  go_enter Try.func15, Try.ntmps15
  go_wp2_with fail
  refine wp_loop_rounds 2 ?_
  rw [rounds_succ]
  go_wp2_with (first | (go_at_call 40; go_must ((refine (zz r0 lo_r0 hi_r0 _).mono ?_); rintro e w1 ⟨rfl, hb1⟩; have B1 : Below w.heap.size w w1 := chain (by (repeat' (first | (with_reducible exact Below.refl _ _) | (with_reducible assumption) | (with_reducible refine Below.alloc ?_ ?_ _) | (with_reducible refine below_drewN' ?_ _) | (with_reducible refine Below.drew ?_) | (with_reducible refine Below.setCell ?_ ?_ _) | go_size))) hb1; have S1 := B1.size; clear hb1)) | (go_at_call 41; go_must ((refine (listed_rm 0 r0 0 (by omega) (by omega) (by omega) (by omega) (by omega) (by omega) _).mono ?_); rintro e w2 ⟨g, cap', rfl, hrow, hb2⟩; have B2 : Below w.heap.size w w2 := chain (by (repeat' (first | (with_reducible exact Below.refl _ _) | (with_reducible assumption) | (with_reducible refine Below.alloc ?_ ?_ _) | (with_reducible refine below_drewN' ?_ _) | (with_reducible refine Below.drew ?_) | (with_reducible refine Below.setCell ?_ ?_ _) | go_size))) hb2; clear hb2)) | go_in)
  rw [rounds_succ]
  go_wp2_with (first | (go_at_call 40; go_must ((refine (zz r0 lo_r0 hi_r0 _).mono ?_); rintro e w1 ⟨rfl, hb1⟩; have B1 : Below w.heap.size w w1 := chain (by (repeat' (first | (with_reducible exact Below.refl _ _) | (with_reducible assumption) | (with_reducible refine Below.alloc ?_ ?_ _) | (with_reducible refine below_drewN' ?_ _) | (with_reducible refine Below.drew ?_) | (with_reducible refine Below.setCell ?_ ?_ _) | go_size))) hb1; have S1 := B1.size; clear hb1)) | (go_at_call 41; go_must ((refine (listed_rm 0 r0 0 (by omega) (by omega) (by omega) (by omega) (by omega) (by omega) _).mono ?_); rintro e w2 ⟨g, cap', rfl, hrow, hb2⟩; have B2 : Below w.heap.size w w2 := chain (by (repeat' (first | (with_reducible exact Below.refl _ _) | (with_reducible assumption) | (with_reducible refine Below.alloc ?_ ?_ _) | (with_reducible refine below_drewN' ?_ _) | (with_reducible refine Below.drew ?_) | (with_reducible refine Below.setCell ?_ ?_ _) | go_size))) hb2; clear hb2)) | go_in)
  go_ret2
  exact ⟨g, cap', rfl, hrow, B2⟩
theorem guard0 (n : Nat) (hn : n < 4294967296) : Q.Gives Try.prog 22 #[.int .u32 (n : Int), .int .i64 11, .int .i64 7] (.int .i64 ((n / 2 ^ 7 % 2 ^ 5 : Nat) : Int)) := by
  have e : Q.run Try.prog 4 3 [] 22 #[.int .u32 (n : Int), .int .i64 11, .int .i64 7] = some (.int .i64 (Ev.fd (n : Int) 11 7), []) := by kernel_rfl
  have p : Ev.fd (n : Int) 11 7 = ((n / 2 ^ 7 % 2 ^ 5 : Nat) : Int) := Ev.fd_cast n 11 7 hn (by decide) (by decide)
  rw [p] at e
  exact Q.gives mixed e trivial
set_option maxRecDepth 100000 in
set_option maxHeartbeats 4000000 in
theorem early0 (n : Nat) (hn : n < 4294967296)  (z0 : n / 2 ^ 7 % 2 ^ 5 = 0) (w : World) : Calls Try.prog 5 #[.int .u32 (n : Int)] w fun e w' => e = .returned (.bool true) ∧ Below w.heap.size w w' := by
  have p0 := guard0 n hn
  rw [z0] at p0
  have q0 : ∀ w, Calls _ _ _ w _ := p0
  clear p0 z0
  have a0 := any0 n hn
  go_enter Try.func5, Try.ntmps5
  go_wp2_with (first | (go_at_call 21; ((with_reducible refine (a0 _).mono ?_); rintro e w1 ⟨k0, r0', t0, rfl, hb1⟩; have B1 : Below w.heap.size w w1 := chain (by (repeat' (first | (with_reducible exact Below.refl _ _) | (with_reducible assumption) | (with_reducible refine Below.alloc ?_ ?_ _) | (with_reducible refine below_drewN' ?_ _) | (with_reducible refine Below.drew ?_) | (with_reducible refine Below.setCell ?_ ?_ _) | go_size))) hb1; have S1 := B1.size; clear hb1)) | (go_at_call 22; ((with_reducible refine (q0 _).mono ?_); rintro e w' ⟨rfl, m, rfl⟩)) | go_in)
  all_goals go_ret
  all_goals (refine ⟨rfl, ?_⟩)
  all_goals (repeat' (first | (with_reducible exact Below.refl _ _) | (with_reducible assumption) | (with_reducible refine Below.alloc ?_ ?_ _) | (with_reducible refine below_drewN' ?_ _) | (with_reducible refine Below.drew ?_) | (with_reducible refine Below.setCell ?_ ?_ _) | go_size))
set_option maxRecDepth 100000 in
set_option maxHeartbeats 4000000 in
theorem main (n : Nat) (hn : n < 4294967296) (z0 : ¬ n / 2 ^ 7 % 2 ^ 5 = 0) (w : World) : Calls Try.prog 5 #[.int .u32 (n : Int)] w fun e w' => e = .returned (.bool true) ∧ Below w.heap.size w w' := by
  obtain ⟨r0, ⟨lo_r0, hi_r0⟩, g0⟩ := num0 n hn z0
  have a0 := arg0 r0 n lo_r0 hi_r0 g0
  clear g0
  have b0 : ((((n / 2 ^ 7 % 2 ^ 5 : Nat) : Int)) == 0) = false := by rw [beq_eq_false_iff_ne]; omega
  have q0 : ∀ w, Calls _ _ _ w _ := guard0 n hn
  generalize ((n / 2 ^ 7 % 2 ^ 5 : Nat) : Int) = y0 at *
  clear z0
  go_enter Try.func5, Try.ntmps5
  go_wp2_with (first | (go_at_call 21; ((with_reducible refine (a0 _).mono ?_); rintro e w1 ⟨rfl, hb1⟩; have B1 : Below w.heap.size w w1 := chain (by (repeat' (first | (with_reducible exact Below.refl _ _) | (with_reducible assumption) | (with_reducible refine Below.alloc ?_ ?_ _) | (with_reducible refine below_drewN' ?_ _) | (with_reducible refine Below.drew ?_) | (with_reducible refine Below.setCell ?_ ?_ _) | go_size))) hb1; have S1 := B1.size; clear hb1)) | (go_at_call 22; ((with_reducible refine (q0 _).mono ?_); rintro e w' ⟨rfl, m, rfl⟩)) | (go_at_call 15; go_must ((refine (turned r0 lo_r0 hi_r0 _ _ _ (by simp) (by simp) (by simp)).mono ?_); rintro e w2 ⟨g, cap', rfl, hrow, hb2⟩; have x0 : w2.cell? ⟨w1.heap.size, 0, none⟩ = some (.int .i64 1) := keepc hb2 (by simp); have x1 : w2.cell? ⟨w1.heap.size, 1, none⟩ = some (.int .i64 r0) := keepc hb2 (by simp); have x2 : w2.cell? ⟨w1.heap.size, 2, none⟩ = some (.int .i64 0) := keepc hb2 (by simp); have ya : w2.cell? ⟨g, 0, none⟩ = some (.int .i64 1) := hrow 0 _ rfl; have yb : w2.cell? ⟨g, 1, none⟩ = some (.int .i64 0) := hrow 1 _ rfl; have yc : w2.cell? ⟨g, 2, none⟩ = some (.int .i64 0) := hrow 2 _ rfl; have yd : w2.cell? ⟨g, 3, none⟩ = some (.int .i64 3) := hrow 3 _ rfl; have ye : w2.cell? ⟨g, 4, none⟩ = some (.int .i64 r0) := hrow 4 _ rfl; have yf : w2.cell? ⟨g, 5, none⟩ = some (.int .i64 0) := hrow 5 _ rfl; clear hrow; have B2 : Below w.heap.size w w2 := chain (by (repeat' (first | (with_reducible exact Below.refl _ _) | (with_reducible assumption) | (with_reducible refine Below.alloc ?_ ?_ _) | (with_reducible refine below_drewN' ?_ _) | (with_reducible refine Below.drew ?_) | (with_reducible refine Below.setCell ?_ ?_ _) | go_size))) hb2; have S2 := B2.size; clear hb2)))
  go_region_held3 (fun w' => w'.cell? ⟨w1.heap.size, 0, none⟩ = some (.int .i64 1) ∧ w'.cell? ⟨w1.heap.size, 1, none⟩ = some (.int .i64 r0) ∧ w'.cell? ⟨w1.heap.size, 2, none⟩ = some (.int .i64 0) ∧ w'.cell? ⟨g, 0, none⟩ = some (.int .i64 1) ∧ w'.cell? ⟨g, 1, none⟩ = some (.int .i64 0) ∧ w'.cell? ⟨g, 2, none⟩ = some (.int .i64 0) ∧ w'.cell? ⟨g, 3, none⟩ = some (.int .i64 3) ∧ w'.cell? ⟨g, 4, none⟩ = some (.int .i64 r0) ∧ w'.cell? ⟨g, 5, none⟩ = some (.int .i64 0)) (first | (repeat' (first | assumption | (with_reducible refine And.intro ?_ ?_) | (with_reducible refine keepd ?_) | (with_reducible refine keepa _ ?_))) | go_keep)
    (first | (go_at_call 20; refine (there1 _ _ 1 _ (by decide) (by simp [*])).mono ?_; rintro e w' ⟨rfl, rfl⟩) | (go_at_call 16; refine (likeall2 _ _ _ _ 1 0 0 3 r0 0 1 0 0 3 r0 0 _ (by (repeat' (first | (with_reducible assumption) | (with_reducible refine keepd ?_) | ((with_reducible refine newc _ _ _ _ _ _ ?_ ?_) <;> (simp; done)) | (with_reducible refine keepa _ ?_)))) (by (repeat' (first | (with_reducible assumption) | (with_reducible refine keepd ?_) | ((with_reducible refine newc _ _ _ _ _ _ ?_ ?_) <;> (simp; done)) | (with_reducible refine keepa _ ?_)))) (by (repeat' (first | (with_reducible assumption) | (with_reducible refine keepd ?_) | ((with_reducible refine newc _ _ _ _ _ _ ?_ ?_) <;> (simp; done)) | (with_reducible refine keepa _ ?_)))) (by (repeat' (first | (with_reducible assumption) | (with_reducible refine keepd ?_) | ((with_reducible refine newc _ _ _ _ _ _ ?_ ?_) <;> (simp; done)) | (with_reducible refine keepa _ ?_)))) (by (repeat' (first | (with_reducible assumption) | (with_reducible refine keepd ?_) | ((with_reducible refine newc _ _ _ _ _ _ ?_ ?_) <;> (simp; done)) | (with_reducible refine keepa _ ?_)))) (by (repeat' (first | (with_reducible assumption) | (with_reducible refine keepd ?_) | ((with_reducible refine newc _ _ _ _ _ _ ?_ ?_) <;> (simp; done)) | (with_reducible refine keepa _ ?_)))) (by (repeat' (first | (with_reducible assumption) | (with_reducible refine keepd ?_) | ((with_reducible refine newc _ _ _ _ _ _ ?_ ?_) <;> (simp; done)) | (with_reducible refine keepa _ ?_)))) (by (repeat' (first | (with_reducible assumption) | (with_reducible refine keepd ?_) | ((with_reducible refine newc _ _ _ _ _ _ ?_ ?_) <;> (simp; done)) | (with_reducible refine keepa _ ?_)))) (by (repeat' (first | (with_reducible assumption) | (with_reducible refine keepd ?_) | ((with_reducible refine newc _ _ _ _ _ _ ?_ ?_) <;> (simp; done)) | (with_reducible refine keepa _ ?_)))) (by (repeat' (first | (with_reducible assumption) | (with_reducible refine keepd ?_) | ((with_reducible refine newc _ _ _ _ _ _ ?_ ?_) <;> (simp; done)) | (with_reducible refine keepa _ ?_)))) (by (repeat' (first | (with_reducible assumption) | (with_reducible refine keepd ?_) | ((with_reducible refine newc _ _ _ _ _ _ ?_ ?_) <;> (simp; done)) | (with_reducible refine keepa _ ?_)))) (by (repeat' (first | (with_reducible assumption) | (with_reducible refine keepd ?_) | ((with_reducible refine newc _ _ _ _ _ _ ?_ ?_) <;> (simp; done)) | (with_reducible refine keepa _ ?_)))) (like_reg 0) (like_mem r0 0)).mono ?_; rintro e w' ⟨rfl, hb9⟩; have nx0 : w'.cell? ⟨w1.heap.size, 0, none⟩ = some (.int .i64 1) := keepc hb9 (by (repeat' (first | (with_reducible assumption) | (with_reducible refine keepd ?_) | ((with_reducible refine newc _ _ _ _ _ _ ?_ ?_) <;> (simp; done)) | (with_reducible refine keepa _ ?_)))); have nx1 : w'.cell? ⟨w1.heap.size, 1, none⟩ = some (.int .i64 r0) := keepc hb9 (by (repeat' (first | (with_reducible assumption) | (with_reducible refine keepd ?_) | ((with_reducible refine newc _ _ _ _ _ _ ?_ ?_) <;> (simp; done)) | (with_reducible refine keepa _ ?_)))); have nx2 : w'.cell? ⟨w1.heap.size, 2, none⟩ = some (.int .i64 0) := keepc hb9 (by (repeat' (first | (with_reducible assumption) | (with_reducible refine keepd ?_) | ((with_reducible refine newc _ _ _ _ _ _ ?_ ?_) <;> (simp; done)) | (with_reducible refine keepa _ ?_)))); have nya : w'.cell? ⟨g, 0, none⟩ = some (.int .i64 1) := keepc hb9 (by (repeat' (first | (with_reducible assumption) | (with_reducible refine keepd ?_) | ((with_reducible refine newc _ _ _ _ _ _ ?_ ?_) <;> (simp; done)) | (with_reducible refine keepa _ ?_)))); have nyb : w'.cell? ⟨g, 1, none⟩ = some (.int .i64 0) := keepc hb9 (by (repeat' (first | (with_reducible assumption) | (with_reducible refine keepd ?_) | ((with_reducible refine newc _ _ _ _ _ _ ?_ ?_) <;> (simp; done)) | (with_reducible refine keepa _ ?_)))); have nyc : w'.cell? ⟨g, 2, none⟩ = some (.int .i64 0) := keepc hb9 (by (repeat' (first | (with_reducible assumption) | (with_reducible refine keepd ?_) | ((with_reducible refine newc _ _ _ _ _ _ ?_ ?_) <;> (simp; done)) | (with_reducible refine keepa _ ?_)))); have nyd : w'.cell? ⟨g, 3, none⟩ = some (.int .i64 3) := keepc hb9 (by (repeat' (first | (with_reducible assumption) | (with_reducible refine keepd ?_) | ((with_reducible refine newc _ _ _ _ _ _ ?_ ?_) <;> (simp; done)) | (with_reducible refine keepa _ ?_)))); have nye : w'.cell? ⟨g, 4, none⟩ = some (.int .i64 r0) := keepc hb9 (by (repeat' (first | (with_reducible assumption) | (with_reducible refine keepd ?_) | ((with_reducible refine newc _ _ _ _ _ _ ?_ ?_) <;> (simp; done)) | (with_reducible refine keepa _ ?_)))); have nyf : w'.cell? ⟨g, 5, none⟩ = some (.int .i64 0) := keepc hb9 (by (repeat' (first | (with_reducible assumption) | (with_reducible refine keepd ?_) | ((with_reducible refine newc _ _ _ _ _ _ ?_ ?_) <;> (simp; done)) | (with_reducible refine keepa _ ?_))))) | go_in)
  go_wp2_with fail
  go_ret
  exact ⟨rfl, chain (by (repeat' (first | (with_reducible exact Below.refl _ _) | (with_reducible assumption) | (with_reducible refine Below.alloc ?_ ?_ _) | (with_reducible refine below_drewN' ?_ _) | (with_reducible refine Below.drew ?_) | (with_reducible refine Below.setCell ?_ ?_ _) | go_size))) hb9⟩
theorem walk (a0 : Int) (w0 : (Lit.int .u32 a0).wf = true) (w : World) :
    Calls Try.prog 5 #[.int .u32 a0] w fun e w' => e = .returned (.bool true) ∧ Below w.heap.size w w' := by
  obtain ⟨b0, b1⟩ := bounds_u32 w0
  obtain ⟨n, rfl⟩ := Int.eq_ofNat_of_zero_le b0
  have hn : n < 4294967296 := by omega
  by_cases z0 : n / 2 ^ 7 % 2 ^ 5 = 0
  · exact early0 n hn z0 w
  exact main n hn z0 w

set_option maxRecDepth 100000 in
theorem lifted (os : Os) (started : os.Started) (H : Type) (enc : TypeId × Value → H) :
    ReturnsInHanded {} Try.checked os 5 .any (Rows.fnConvertJrSpec.pre6 enc Try.prog Try.f5 Rows.fnConvertJrRow.domain false) (Rows.fnConvertJrSpec.post enc Try.prog Try.f5 false true false false) := by
  refine returnsInHanded_of_change (C := Try.checked) own started (by kernel_rfl) Try.func5
    (ChangeSpec.witness6 (enc := enc) (C := Try.checked) false ⟨#[], #[.int .u32 0], []⟩ 8 (by kernel_rfl) (by kernel_rfl) (by kernel_rfl) (by kernel_rfl)) ?_
  intro W base args ds gs before hval0 hW hcnd _
  have hval : ∀ (j : Nat) t v, Try.f5.params[j]? = some t → args[j]? = some v → Value.okWide Try.prog W .any base t v := hval0
  have hW' := hW
  obtain ⟨p, q, hA0, hV, rfl, hfz, hnd⟩ := hW
  have hA : DataW.TrodAll enc Try.prog W 0 (fun _ => true) true Try.f5.params.toList args.toList ds p := hA0
  rw [Try.params5] at hA hval
  obtain ⟨v0, vs0, d0, ds0, p0, q0, hargs, rfl, rfl, h0, r0⟩ := trodAll_cons hA
  obtain ⟨rfl, rfl, rfl⟩ := trodAll_nil r0
  obtain rfl : args = #[v0] := by cases args; simp_all
  obtain ⟨rfl, rfl⟩ := trodVars_none hV
  obtain ⟨a0, rfl, rfl, rfl, w0⟩ := open_int Try.underlying22 (hval 0 22 v0 rfl rfl) h0
  clear hA0 hval0
  simp only [List.append_nil] at hW'
  refine (walk a0 w0 W).mono fun e W' ⟨he, hg⟩ => ?_
  subst he
  exact ⟨_, rfl, _, _, _, [], [], [], hW', (trodAll_cons_mk (shut_bool Try.underlying4 _) trodAll_mk0), (trodAll_cons_mk (shut_int Try.underlying22 w0) trodAll_mk0), rfl, hg.frame _, fun h => by cases h⟩

theorem over : Rows.fnConvertJrRow.holds Try.pinned (OpenSpec.ofChange Rows.fnConvertJrSpec) :=
  OpenClaim.holds_of_wide 5 Try.f5 rfl rfl rfl rfl rfl rfl rfl ⟨rfl, rfl, rfl, rfl, rfl⟩ rfl rfl rfl rfl rfl (by kernel_rfl) Try.func5 (by kernel_rfl)
    (of_decide_eq_true (by kernel_rfl)) (by unfold Func.isWrapper; first | (rw [if_pos (by decide +kernel)]; kernel_rfl) | (rw [if_neg (by decide +kernel)]; exact ⟨rfl, rfl⟩))
    (fun os started H enc _ => lifted os started H enc)

theorem proved : Rows.FnConvertJrSaid :=
  over
#print axioms proved
end Go.Proofs.Ytjbbbjnhbdohoaa.fnConvertJr
