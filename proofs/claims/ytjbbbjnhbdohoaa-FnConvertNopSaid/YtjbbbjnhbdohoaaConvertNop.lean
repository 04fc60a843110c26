/-
  'laws.FnConvertNop' returns true for every word of 32 bits. No condition.
-/
import Derived.Test.YtjbbbjnhbdohoaaRows
import Derived.Test.YtjbbbjnhbdohoaaQ
import Derived.Test.YtjbbbjnhbdohoaaBits
import Derived.Test.YtjbbbjnhbdohoaaFacts
import Derived.Test.YtjbbbjnhbdohoaaConv
import Derived.WalkKit
import Derived.WalkLawsBesides
import Derived.WalkSpells
import Derived.ProofKit
import Derived.OpenShut
import Derived.Handy
import Derived.RegionTactic
import Derived.ChangeAlike
import Derived.BigRegion
import Derived.Deep.RegionHeld3
import Derived.Deep.DeepMust
namespace Go.Proofs.Ytjbbbjnhbdohoaa.fnConvertNop
open Go Go.ChangeShapes Go.WideShapes Go.ChangeAt Go.RowKit Conv
set_option linter.unusedVariables false
theorem keepa {W : World} {b o : Nat} {v : Value} (ob : Obj) (h : W.cell? ⟨b, o, none⟩ = some v) : (W.alloc ob).cell? ⟨b, o, none⟩ = some v :=
  (World.cell?_alloc_some W _ ob (by rw [h]; rfl)).trans h
theorem newc (w : World) (c : Array Value) (t : TypeId) (n i : Nat) (v : Value) (hn : n = w.heap.size) (h : c[i]? = some v) : (w.alloc (.cells c t)).cell? ⟨n, i, none⟩ = some v :=
  (World.cell?_alloc_at c t n i hn).trans h
theorem keepd {W : World} {a : Addr} {v : Value} (h : W.cell? a = some v) : W.drew.cell? a = some v := h
theorem own : ownKnob Try.prog.godebug = none := by kernel_rfl
theorem mixed : Try.prog.follows .mixedOrders = true := by kernel_rfl

set_option maxRecDepth 100000 in
set_option maxHeartbeats 4000000 in
theorem zz (w : World) : Calls Try.prog 40 #[.int .u16 142, .agg #[(.iface 52 (.agg #[.int .i32 0, .bool true, .int .u8 12])), .nilIface, .nilIface, .nilIface, .nilIface, .nilIface]] w fun e w' => e = .returned (.tuple #[.int .u16 2, .agg #[(.iface 50 (.int .u16 0)), (.iface 50 (.int .u16 0)), (.iface 52 (.agg #[.int .i32 0, .bool true, .int .u8 12])), .nilIface, .nilIface, .nilIface]]) ∧ Below w.heap.size w w' := by
  go_enter Try.func40, Try.ntmps40
  go_wp2
  all_goals (try go_region)
  all_goals go_wp2
  all_goals (try go_region)
  all_goals go_wp2
  all_goals go_returns
  all_goals (refine ⟨rfl, ?_⟩)
  all_goals (repeat' (first | (with_reducible exact Below.refl _ _) | (with_reducible assumption) | (with_reducible refine Below.alloc ?_ ?_ _) | (with_reducible refine below_drewN' ?_ _) | (with_reducible refine Below.drew ?_) | (with_reducible refine Below.setCell ?_ ?_ _) | go_size))
set_option maxRecDepth 100000 in
set_option maxHeartbeats 1000000 in
theorem turned (b cap : Nat) (w : World) (x0 : w.cell? ⟨b, 0, none⟩ = some (.int .i64 4)) (x1 : w.cell? ⟨b, 1, none⟩ = some (.int .i64 0)) (x2 : w.cell? ⟨b, 2, none⟩ = some (.int .i64 0)) : Calls Try.prog 15 #[.int .i64 142, .slice (some ⟨b, 0, none⟩) 1 cap] w
    fun e w' => ∃ g cap', e = .returned (.tuple #[.int .i64 2, .slice (some ⟨g, 0, none⟩) 3 cap']) ∧ RowAt w' g [.int .i64 1, .int .i64 0, .int .i64 0, .int .i64 1, .int .i64 0, .int .i64 0, .int .i64 4, .int .i64 0, .int .i64 0] ∧ Below w.heap.size w w' := by
  have hbs : b < w.heap.size := World.block_lt_of_cell? w _ x0
  have hl1 : b < w.heap.size + 1 := by omega
  have hl2 : b < w.heap.size + 1 + 1 := by omega
  have hl3 : b < w.heap.size + 1 + 1 + 1 := by omega
  have hl4 : b < w.heap.size + 1 + 1 + 1 + 1 := by omega
  have hl5 : b < w.heap.size + 1 + 1 + 1 + 1 + 1 := by omega
  have hl6 : b < w.heap.size + 1 + 1 + 1 + 1 + 1 + 1 := by omega
  have nb0 : b ≠ w.heap.size := by omega
  have nb1 : b ≠ w.heap.size + 1 := by omega
  have nb2 : b ≠ w.heap.size + 1 + 1 := by omega
  have nb3 : b ≠ w.heap.size + 1 + 1 + 1 := by omega
  have nb4 : b ≠ w.heap.size + 1 + 1 + 1 + 1 := by omega
  have nb5 : b ≠ w.heap.size + 1 + 1 + 1 + 1 + 1 := by omega
  have nb6 : b ≠ w.heap.size + 1 + 1 + 1 + 1 + 1 + 1 := by omega
  go_enter Try.func15, Try.ntmps15
  go_wp2_with fail
  refine wp_loop_rounds 2 ?_
  rw [rounds_succ]
  go_wp2_with (first | (go_at_call 40; go_must ((refine (zz  _).mono ?_); rintro e w1 ⟨rfl, hb1⟩; have B1 : Below w.heap.size w w1 := chain (by (repeat' (first | (with_reducible exact Below.refl _ _) | (with_reducible assumption) | (with_reducible refine Below.alloc ?_ ?_ _) | (with_reducible refine below_drewN' ?_ _) | (with_reducible refine Below.drew ?_) | (with_reducible refine Below.setCell ?_ ?_ _) | go_size))) hb1; have S1 := B1.size; clear hb1)) | (go_at_call 41; go_must ((refine (listed_rrs 0 0 0 (by omega) (by omega) (by omega) (by omega) (by omega) (by omega) _).mono ?_); rintro e w2 ⟨g, cap', rfl, hrow, hb2⟩; have B2 : Below w.heap.size w w2 := chain (by (repeat' (first | (with_reducible exact Below.refl _ _) | (with_reducible assumption) | (with_reducible refine Below.alloc ?_ ?_ _) | (with_reducible refine below_drewN' ?_ _) | (with_reducible refine Below.drew ?_) | (with_reducible refine Below.setCell ?_ ?_ _) | go_size))) hb2; clear hb2)) | go_in)
  rw [rounds_succ]
  go_wp2_with (first | (go_at_call 40; go_must ((refine (zz  _).mono ?_); rintro e w1 ⟨rfl, hb1⟩; have B1 : Below w.heap.size w w1 := chain (by (repeat' (first | (with_reducible exact Below.refl _ _) | (with_reducible assumption) | (with_reducible refine Below.alloc ?_ ?_ _) | (with_reducible refine below_drewN' ?_ _) | (with_reducible refine Below.drew ?_) | (with_reducible refine Below.setCell ?_ ?_ _) | go_size))) hb1; have S1 := B1.size; clear hb1)) | (go_at_call 41; go_must ((refine (listed_rrs 0 0 0 (by omega) (by omega) (by omega) (by omega) (by omega) (by omega) _).mono ?_); rintro e w2 ⟨g, cap', rfl, hrow, hb2⟩; have B2 : Below w.heap.size w w2 := chain (by (repeat' (first | (with_reducible exact Below.refl _ _) | (with_reducible assumption) | (with_reducible refine Below.alloc ?_ ?_ _) | (with_reducible refine below_drewN' ?_ _) | (with_reducible refine Below.drew ?_) | (with_reducible refine Below.setCell ?_ ?_ _) | go_size))) hb2; clear hb2)) | go_in)
  go_ret2
  exact ⟨g, cap', rfl, hrow, B2⟩
set_option maxRecDepth 100000 in
set_option maxHeartbeats 4000000 in
theorem main (n : Nat) (hn : n < 4294967296) (w : World) : Calls Try.prog 3 #[.int .u32 (n : Int)] w fun e w' => e = .returned (.bool true) ∧ Below w.heap.size w w' := by
  by_cases hm : (n : Int) % 4 = 3
  · have e3 : (((n : Int) % 4) == 3) = true := by rw [beq_iff_eq]; exact hm
    go_enter Try.func3, Try.ntmps3
    go_wp2
    all_goals go_ret
    all_goals (refine ⟨rfl, ?_⟩)
    all_goals (repeat' (first | (with_reducible exact Below.refl _ _) | (with_reducible assumption) | (with_reducible refine Below.alloc ?_ ?_ _) | (with_reducible refine below_drewN' ?_ _) | (with_reducible refine Below.drew ?_) | (with_reducible refine Below.setCell ?_ ?_ _) | go_size))
  have e3 : (((n : Int) % 4) == 3) = false := by rw [beq_eq_false_iff_ne]; exact hm
  go_enter Try.func3, Try.ntmps3
  go_wp2_with (first | (go_at_call 15; go_must ((refine (turned  _ _ _ (by simp) (by simp) (by simp)).mono ?_); rintro e w1 ⟨g, cap', rfl, hrow, hb1⟩; have x0 : w1.cell? ⟨w.heap.size, 0, none⟩ = some (.int .i64 4) := keepc hb1 (by simp); have x1 : w1.cell? ⟨w.heap.size, 1, none⟩ = some (.int .i64 0) := keepc hb1 (by simp); have x2 : w1.cell? ⟨w.heap.size, 2, none⟩ = some (.int .i64 0) := keepc hb1 (by simp); have ya : w1.cell? ⟨g, 0, none⟩ = some (.int .i64 1) := hrow 0 _ rfl; have yb : w1.cell? ⟨g, 1, none⟩ = some (.int .i64 0) := hrow 1 _ rfl; have yc : w1.cell? ⟨g, 2, none⟩ = some (.int .i64 0) := hrow 2 _ rfl; have yd : w1.cell? ⟨g, 3, none⟩ = some (.int .i64 1) := hrow 3 _ rfl; have ye : w1.cell? ⟨g, 4, none⟩ = some (.int .i64 0) := hrow 4 _ rfl; have yf : w1.cell? ⟨g, 5, none⟩ = some (.int .i64 0) := hrow 5 _ rfl; have yg : w1.cell? ⟨g, 6, none⟩ = some (.int .i64 4) := hrow 6 _ rfl; have yh : w1.cell? ⟨g, 7, none⟩ = some (.int .i64 0) := hrow 7 _ rfl; have yi : w1.cell? ⟨g, 8, none⟩ = some (.int .i64 0) := hrow 8 _ rfl; clear hrow; have B1 : Below w.heap.size w w1 := chain (by (repeat' (first | (with_reducible exact Below.refl _ _) | (with_reducible assumption) | (with_reducible refine Below.alloc ?_ ?_ _) | (with_reducible refine below_drewN' ?_ _) | (with_reducible refine Below.drew ?_) | (with_reducible refine Below.setCell ?_ ?_ _) | go_size))) hb1; have S1 := B1.size; clear hb1)) | (go_at_call 16; refine (likeall3 _ _ _ _ 1 0 0 1 0 0 4 0 0 1 0 0 1 0 0 4 0 0 _ (by (repeat' (first | (with_reducible assumption) | (with_reducible refine keepd ?_) | ((with_reducible refine newc _ _ _ _ _ _ ?_ ?_) <;> (simp; done)) | (with_reducible refine keepa _ ?_)))) (by (repeat' (first | (with_reducible assumption) | (with_reducible refine keepd ?_) | ((with_reducible refine newc _ _ _ _ _ _ ?_ ?_) <;> (simp; done)) | (with_reducible refine keepa _ ?_)))) (by (repeat' (first | (with_reducible assumption) | (with_reducible refine keepd ?_) | ((with_reducible refine newc _ _ _ _ _ _ ?_ ?_) <;> (simp; done)) | (with_reducible refine keepa _ ?_)))) (by (repeat' (first | (with_reducible assumption) | (with_reducible refine keepd ?_) | ((with_reducible refine newc _ _ _ _ _ _ ?_ ?_) <;> (simp; done)) | (with_reducible refine keepa _ ?_)))) (by (repeat' (first | (with_reducible assumption) | (with_reducible refine keepd ?_) | ((with_reducible refine newc _ _ _ _ _ _ ?_ ?_) <;> (simp; done)) | (with_reducible refine keepa _ ?_)))) (by (repeat' (first | (with_reducible assumption) | (with_reducible refine keepd ?_) | ((with_reducible refine newc _ _ _ _ _ _ ?_ ?_) <;> (simp; done)) | (with_reducible refine keepa _ ?_)))) (by (repeat' (first | (with_reducible assumption) | (with_reducible refine keepd ?_) | ((with_reducible refine newc _ _ _ _ _ _ ?_ ?_) <;> (simp; done)) | (with_reducible refine keepa _ ?_)))) (by (repeat' (first | (with_reducible assumption) | (with_reducible refine keepd ?_) | ((with_reducible refine newc _ _ _ _ _ _ ?_ ?_) <;> (simp; done)) | (with_reducible refine keepa _ ?_)))) (by (repeat' (first | (with_reducible assumption) | (with_reducible refine keepd ?_) | ((with_reducible refine newc _ _ _ _ _ _ ?_ ?_) <;> (simp; done)) | (with_reducible refine keepa _ ?_)))) (by (repeat' (first | (with_reducible assumption) | (with_reducible refine keepd ?_) | ((with_reducible refine newc _ _ _ _ _ _ ?_ ?_) <;> (simp; done)) | (with_reducible refine keepa _ ?_)))) (by (repeat' (first | (with_reducible assumption) | (with_reducible refine keepd ?_) | ((with_reducible refine newc _ _ _ _ _ _ ?_ ?_) <;> (simp; done)) | (with_reducible refine keepa _ ?_)))) (by (repeat' (first | (with_reducible assumption) | (with_reducible refine keepd ?_) | ((with_reducible refine newc _ _ _ _ _ _ ?_ ?_) <;> (simp; done)) | (with_reducible refine keepa _ ?_)))) (by (repeat' (first | (with_reducible assumption) | (with_reducible refine keepd ?_) | ((with_reducible refine newc _ _ _ _ _ _ ?_ ?_) <;> (simp; done)) | (with_reducible refine keepa _ ?_)))) (by (repeat' (first | (with_reducible assumption) | (with_reducible refine keepd ?_) | ((with_reducible refine newc _ _ _ _ _ _ ?_ ?_) <;> (simp; done)) | (with_reducible refine keepa _ ?_)))) (by (repeat' (first | (with_reducible assumption) | (with_reducible refine keepd ?_) | ((with_reducible refine newc _ _ _ _ _ _ ?_ ?_) <;> (simp; done)) | (with_reducible refine keepa _ ?_)))) (by (repeat' (first | (with_reducible assumption) | (with_reducible refine keepd ?_) | ((with_reducible refine newc _ _ _ _ _ _ ?_ ?_) <;> (simp; done)) | (with_reducible refine keepa _ ?_)))) (by (repeat' (first | (with_reducible assumption) | (with_reducible refine keepd ?_) | ((with_reducible refine newc _ _ _ _ _ _ ?_ ?_) <;> (simp; done)) | (with_reducible refine keepa _ ?_)))) (by (repeat' (first | (with_reducible assumption) | (with_reducible refine keepd ?_) | ((with_reducible refine newc _ _ _ _ _ _ ?_ ?_) <;> (simp; done)) | (with_reducible refine keepa _ ?_)))) (like_reg 0) (like_reg 0) (like_44 0)).mono ?_; rintro e w' ⟨rfl, hb9⟩) | go_in)
  go_wp2_with fail
  go_ret
  exact ⟨rfl, chain (by (repeat' (first | (with_reducible exact Below.refl _ _) | (with_reducible assumption) | (with_reducible refine Below.alloc ?_ ?_ _) | (with_reducible refine below_drewN' ?_ _) | (with_reducible refine Below.drew ?_) | (with_reducible refine Below.setCell ?_ ?_ _) | go_size))) hb9⟩
theorem walk (a0 : Int) (w0 : (Lit.int .u32 a0).wf = true) (w : World) :
    Calls Try.prog 3 #[.int .u32 a0] w fun e w' => e = .returned (.bool true) ∧ Below w.heap.size w w' := by
  obtain ⟨b0, b1⟩ := bounds_u32 w0
  obtain ⟨n, rfl⟩ := Int.eq_ofNat_of_zero_le b0
  have hn : n < 4294967296 := by omega
  exact main n hn w

set_option maxRecDepth 100000 in
theorem lifted (os : Os) (started : os.Started) (H : Type) (enc : TypeId × Value → H) :
    ReturnsInHanded {} Try.checked os 3 .any (Rows.fnConvertNopSpec.pre6 enc Try.prog Try.f3 Rows.fnConvertNopRow.domain false) (Rows.fnConvertNopSpec.post enc Try.prog Try.f3 false true false false) := by
  refine returnsInHanded_of_change (C := Try.checked) own started (by kernel_rfl) Try.func3
    (ChangeSpec.witness6 (enc := enc) (C := Try.checked) false ⟨#[], #[.int .u32 0], []⟩ 8 (by kernel_rfl) (by kernel_rfl) (by kernel_rfl) (by kernel_rfl)) ?_
  intro W base args ds gs before hval0 hW hcnd _
  have hval : ∀ (j : Nat) t v, Try.f3.params[j]? = some t → args[j]? = some v → Value.okWide Try.prog W .any base t v := hval0
  have hW' := hW
  obtain ⟨p, q, hA0, hV, rfl, hfz, hnd⟩ := hW
  have hA : DataW.TrodAll enc Try.prog W 0 (fun _ => true) true Try.f3.params.toList args.toList ds p := hA0
  rw [Try.params3] at hA hval
  obtain ⟨v0, vs0, d0, ds0, p0, q0, hargs, rfl, rfl, h0, r0⟩ := trodAll_cons hA
  obtain ⟨rfl, rfl, rfl⟩ := trodAll_nil r0
  obtain rfl : args = #[v0] := by cases args; simp_all
  obtain ⟨rfl, rfl⟩ := trodVars_none hV
  obtain ⟨a0, rfl, rfl, rfl, w0⟩ := open_int Try.underlying22 (hval 0 22 v0 rfl rfl) h0
  clear hA0 hval0
  simp only [List.append_nil] at hW'
  refine (walk a0 w0 W).mono fun e W' ⟨he, hg⟩ => ?_
  subst he
  exact ⟨_, rfl, _, _, _, [], [], [], hW', (trodAll_cons_mk (shut_bool Try.underlying4 _) trodAll_mk0), (trodAll_cons_mk (shut_int Try.underlying22 w0) trodAll_mk0), rfl, hg.frame _, fun h => by cases h⟩

theorem over : Rows.fnConvertNopRow.holds Try.pinned (OpenSpec.ofChange Rows.fnConvertNopSpec) :=
  OpenClaim.holds_of_wide 3 Try.f3 rfl rfl rfl rfl rfl rfl rfl ⟨rfl, rfl, rfl, rfl, rfl⟩ rfl rfl rfl rfl rfl (by kernel_rfl) Try.func3 (by kernel_rfl)
    (of_decide_eq_true (by kernel_rfl)) (by unfold Func.isWrapper; first | (rw [if_pos (by decide +kernel)]; kernel_rfl) | (rw [if_neg (by decide +kernel)]; exact ⟨rfl, rfl⟩))
    (fun os started H enc _ => lifted os started H enc)

theorem proved : Rows.FnConvertNopSaid :=
  over
#print axioms proved
end Go.Proofs.Ytjbbbjnhbdohoaa.fnConvertNop
