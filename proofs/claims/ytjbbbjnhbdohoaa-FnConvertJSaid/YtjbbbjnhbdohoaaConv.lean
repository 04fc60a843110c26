/-
  SHARED BY THE CONVERT LAWS: contracts of the reference's Like, There and LikeAll, of impl.listed, and small laws on worlds. Each speaks of every world; what each asks stands in it.
-/
import Derived.Test.YtjbbbjnhbdohoaaRows
import Derived.Test.YtjbbbjnhbdohoaaFacts
import Derived.WalkKit
import Derived.WalkLawsBesides
import Derived.WalkSpells
import Derived.Handy
import Derived.RegionTactic
import Derived.ChangeAlike
import Derived.BigRegion
import Derived.Laws.AppendOwn
import Derived.OwnWalk
import Derived.Deep.RegionHeld3
import Derived.Deep.RegionWith
import Derived.Deep.DeepMust
namespace Go.Proofs.Ytjbbbjnhbdohoaa.Conv
open Go Go.RowKit
set_option maxRecDepth 100000
theorem below_drewN' {B : Nat} {W w' : World} (h : Below B W w') (n : Nat) : Below B W (w'.drewN n) := ⟨h.os, h.tape, h.output, h.size, h.block⟩
theorem chain {W A B : World} (h : Below W.heap.size W A) (h2 : Below A.heap.size A B) : Below W.heap.size W B :=
  h.trans ⟨h2.os, h2.tape, h2.output, h2.size, fun k hk => h2.block k (Nat.lt_of_lt_of_le hk h.size)⟩
theorem keepc {W w1 : World} {b o : Nat} {v : Value} (hb : Below W.heap.size W w1) (h : W.cell? ⟨b, o, none⟩ = some v) : w1.cell? ⟨b, o, none⟩ = some v :=
  (hb.cell (p := ⟨b, o, none⟩) (World.block_lt_of_cell? W _ h)).trans h
theorem below_new {B : Nat} {w w1 w2 : World} {v : Value} {n : Nat} {xs : List Value} (h : Below B w w1) (hB : B ≤ w1.heap.size) (ho : w1.ownsRow B 27 3 v n xs) (hg : w1.grownBy w2 v.ownBlock) : Below B w w2 :=
  h.grown hg hB (fun k hk => (ho.lt k hk).1)
/-- The cells of a row of a slice, one by one. -/
def RowAt (w : World) (g : Nat) (xs : List Value) : Prop := ∀ (j : Nat) (u : Value), xs[j]? = some u → w.cell? ⟨g, j, none⟩ = some u
theorem rowAt_of_owns {w : World} {B : Nat} {v : Value} {n : Nat} {xs : List Value} (h : w.ownsRow B 27 3 v (n + 1) xs) : ∃ g cap, v = .slice (some ⟨g, 0, none⟩) (n + 1) cap ∧ RowAt w g xs := by
  obtain ⟨_, h | ⟨g, cap, cur, hv, _, hg, _, _, _, ht⟩⟩ := h
  · exact absurd h.2 (by omega)
  · refine ⟨g, cap, hv, fun j u hj => ?_⟩
    rw [← ht, List.getElem?_take] at hj
    split at hj
    · unfold World.cell?
      rw [hg]
      simpa using hj
    · cases hj
theorem cells3 (w : World) (x y z : Value) (t : TypeId) (b : Nat) (hb : b = w.heap.size) : ∀ (j : Nat) (u : Value), [x, y, z][j]? = some u → (w.alloc (.cells #[x, y, z] t)).cell? ((⟨b, 0, none⟩ : Addr).add j) = some u := by
  subst hb
  intro j u hj
  match j, hj with
  | 0, hj => simp at hj; subst hj; simp [Addr.add]
  | 1, hj => simp at hj; subst hj; simp [Addr.add]
  | 2, hj => simp at hj; subst hj; simp [Addr.add]
  | j + 3, hj => simp at hj
theorem one3 (a b c : Int) : ∀ u ∈ [Value.int .i64 a, Value.int .i64 b, Value.int .i64 c], u.oneCell' = true := by
  intro u hu
  simp only [List.mem_cons, List.not_mem_nil, or_false] at hu
  rcases hu with rfl | rfl | rfl <;> rfl
theorem infoArg : (Try.prog.info? 27).map (fun i => (i.zero, i.size, i.bytes)) = some (some (.agg #[.int .i64 0, .int .i64 0, .int .i64 0]), 3, 24) := by kernel_rfl
@[go_sem] theorem ix0 (x0 x1 x2 x3 x4 x5 : Value) (w : World) : (Instr.index 39 (.agg #[x0, x1, x2, x3, x4, x5]) (.int .i64 0)).run Try.prog w = .ok x0 w := by kernel_rfl
@[go_sem] theorem ix1 (x0 x1 x2 x3 x4 x5 : Value) (w : World) : (Instr.index 39 (.agg #[x0, x1, x2, x3, x4, x5]) (.int .i64 1)).run Try.prog w = .ok x1 w := by kernel_rfl
@[go_sem] theorem ix2 (x0 x1 x2 x3 x4 x5 : Value) (w : World) : (Instr.index 39 (.agg #[x0, x1, x2, x3, x4, x5]) (.int .i64 2)).run Try.prog w = .ok x2 w := by kernel_rfl
@[go_sem] theorem ix3 (x0 x1 x2 x3 x4 x5 : Value) (w : World) : (Instr.index 39 (.agg #[x0, x1, x2, x3, x4, x5]) (.int .i64 3)).run Try.prog w = .ok x3 w := by kernel_rfl
@[go_sem] theorem ix4 (x0 x1 x2 x3 x4 x5 : Value) (w : World) : (Instr.index 39 (.agg #[x0, x1, x2, x3, x4, x5]) (.int .i64 4)).run Try.prog w = .ok x4 w := by kernel_rfl
@[go_sem] theorem ix5 (x0 x1 x2 x3 x4 x5 : Value) (w : World) : (Instr.index 39 (.agg #[x0, x1, x2, x3, x4, x5]) (.int .i64 5)).run Try.prog w = .ok x5 w := by kernel_rfl
@[go_sem] theorem ca_Simm (v : Value) (w : World) : (Instr.typeAssert (.iface 52 v) 37 52 false).run Try.prog w = .ok v w := by kernel_rfl
@[go_sem] theorem ca_Uimm (v : Value) (w : World) : (Instr.typeAssert (.iface 56 v) 37 56 false).run Try.prog w = .ok v w := by kernel_rfl
@[go_sem] theorem ca_Reg (v : Value) (w : World) : (Instr.typeAssert (.iface 50 v) 37 50 false).run Try.prog w = .ok v w := by kernel_rfl
@[go_sem] theorem fi_Simm (i d u : Value) (w : World) : (Instr.field 52 (.agg #[i, d, u]) 0).run Try.prog w = .ok i w := by kernel_rfl
@[go_sem] theorem fi_Uimm (i d : Value) (w : World) : (Instr.field 56 (.agg #[i, d]) 0).run Try.prog w = .ok i w := by kernel_rfl
theorem like_reg (r : Int) (w : World) : Calls Try.prog 42 #[.agg #[.int .i64 1, .int .i64 r, .int .i64 0], .agg #[.int .i64 1, .int .i64 r, .int .i64 0]] w fun e w' => e = .returned (.bool true) ∧ Below w.heap.size w w' := by
  go_enter Try.func42, Try.ntmps42
  go_wp2
  go_returns
  exact ⟨rfl, by go_grown⟩
theorem like_mem (r s : Int) (w : World) : Calls Try.prog 42 #[.agg #[.int .i64 3, .int .i64 r, .int .i64 s], .agg #[.int .i64 3, .int .i64 r, .int .i64 s]] w fun e w' => e = .returned (.bool true) ∧ Below w.heap.size w w' := by
  go_enter Try.func42, Try.ntmps42
  go_wp2
  go_returns
  exact ⟨rfl, by go_grown⟩
theorem like_44 (s : Int) (w : World) : Calls Try.prog 42 #[.agg #[.int .i64 4, .int .i64 0, .int .i64 s], .agg #[.int .i64 4, .int .i64 0, .int .i64 s]] w fun e w' => e = .returned (.bool true) ∧ Below w.heap.size w w' := by
  go_enter Try.func42, Try.ntmps42
  go_wp2
  go_returns
  exact ⟨rfl, by go_grown⟩
theorem like_45 (s : Int) (w : World) : Calls Try.prog 42 #[.agg #[.int .i64 4, .int .i64 0, .int .i64 s], .agg #[.int .i64 5, .int .i64 0, .int .i64 s]] w fun e w' => e = .returned (.bool true) ∧ Below w.heap.size w w' := by
  go_enter Try.func42, Try.ntmps42
  go_wp2
  go_returns
  exact ⟨rfl, by go_grown⟩
theorem like_54 (s : Int) (w : World) : Calls Try.prog 42 #[.agg #[.int .i64 5, .int .i64 0, .int .i64 s], .agg #[.int .i64 4, .int .i64 0, .int .i64 s]] w fun e w' => e = .returned (.bool true) ∧ Below w.heap.size w w' := by
  go_enter Try.func42, Try.ntmps42
  go_wp2
  go_returns
  exact ⟨rfl, by go_grown⟩
theorem like_55 (s : Int) (w : World) : Calls Try.prog 42 #[.agg #[.int .i64 5, .int .i64 0, .int .i64 s], .agg #[.int .i64 5, .int .i64 0, .int .i64 s]] w fun e w' => e = .returned (.bool true) ∧ Below w.heap.size w w' := by
  go_enter Try.func42, Try.ntmps42
  go_wp2
  go_returns
  exact ⟨rfl, by go_grown⟩
theorem there1 (b cap : Nat) (k0 : Int) (w : World) (z0 : (k0 == 0) = false) (x0 : w.cell? ⟨b, 0, none⟩ = some (.int .i64 k0)) : Calls Try.prog 20 #[.slice (some ⟨b, 0, none⟩) 1 cap] w fun e w' => e = .returned (.bool true) ∧ w = w' := by
  go_enter Try.func20, Try.ntmps20
  go_wp2
  go_rounds 2
  go_returns
  exact ⟨rfl, rfl⟩
theorem there2 (b cap : Nat) (k0 k1 : Int) (w : World) (z0 : (k0 == 0) = false) (z1 : (k1 == 0) = false) (x0 : w.cell? ⟨b, 0, none⟩ = some (.int .i64 k0)) (x3 : w.cell? ⟨b, 3, none⟩ = some (.int .i64 k1)) : Calls Try.prog 20 #[.slice (some ⟨b, 0, none⟩) 2 cap] w fun e w' => e = .returned (.bool true) ∧ w = w' := by
  go_enter Try.func20, Try.ntmps20
  go_wp2
  go_rounds 3
  go_returns
  exact ⟨rfl, rfl⟩
set_option maxHeartbeats 1000000 in
theorem likeall2 (b c cb cc : Nat) (a0 a1 a2 a3 a4 a5 b0 b1 b2 b3 b4 b5 : Int) (w : World)
    (x0 : w.cell? ⟨b, 0, none⟩ = some (.int .i64 a0)) (x1 : w.cell? ⟨b, 1, none⟩ = some (.int .i64 a1)) (x2 : w.cell? ⟨b, 2, none⟩ = some (.int .i64 a2)) (x3 : w.cell? ⟨b, 3, none⟩ = some (.int .i64 a3)) (x4 : w.cell? ⟨b, 4, none⟩ = some (.int .i64 a4)) (x5 : w.cell? ⟨b, 5, none⟩ = some (.int .i64 a5)) (y0 : w.cell? ⟨c, 0, none⟩ = some (.int .i64 b0)) (y1 : w.cell? ⟨c, 1, none⟩ = some (.int .i64 b1)) (y2 : w.cell? ⟨c, 2, none⟩ = some (.int .i64 b2)) (y3 : w.cell? ⟨c, 3, none⟩ = some (.int .i64 b3)) (y4 : w.cell? ⟨c, 4, none⟩ = some (.int .i64 b4)) (y5 : w.cell? ⟨c, 5, none⟩ = some (.int .i64 b5))
    (L0 : ∀ w, Calls Try.prog 42 #[.agg #[.int .i64 a0, .int .i64 a1, .int .i64 a2], .agg #[.int .i64 b0, .int .i64 b1, .int .i64 b2]] w fun e w' => e = .returned (.bool true) ∧ Below w.heap.size w w') (L1 : ∀ w, Calls Try.prog 42 #[.agg #[.int .i64 a3, .int .i64 a4, .int .i64 a5], .agg #[.int .i64 b3, .int .i64 b4, .int .i64 b5]] w fun e w' => e = .returned (.bool true) ∧ Below w.heap.size w w') :
    Calls Try.prog 16 #[.slice (some ⟨b, 0, none⟩) 2 cb, .slice (some ⟨c, 0, none⟩) 2 cc] w fun e w' => e = .returned (.bool true) ∧ Below w.heap.size w w' := by
  go_enter Try.func16, Try.ntmps16
  go_wp2_with fail
  refine wp_loop_rounds 3 ?_
  rw [rounds_succ]
  go_wp2_with fail
  go_region_held3 (fun w' => w'.cell? ⟨b, 0, none⟩ = some (.int .i64 a0) ∧ w'.cell? ⟨b, 1, none⟩ = some (.int .i64 a1) ∧ w'.cell? ⟨b, 2, none⟩ = some (.int .i64 a2) ∧ w'.cell? ⟨b, 3, none⟩ = some (.int .i64 a3) ∧ w'.cell? ⟨b, 4, none⟩ = some (.int .i64 a4) ∧ w'.cell? ⟨b, 5, none⟩ = some (.int .i64 a5) ∧ w'.cell? ⟨c, 0, none⟩ = some (.int .i64 b0) ∧ w'.cell? ⟨c, 1, none⟩ = some (.int .i64 b1) ∧ w'.cell? ⟨c, 2, none⟩ = some (.int .i64 b2) ∧ w'.cell? ⟨c, 3, none⟩ = some (.int .i64 b3) ∧ w'.cell? ⟨c, 4, none⟩ = some (.int .i64 b4) ∧ w'.cell? ⟨c, 5, none⟩ = some (.int .i64 b5)) (go_keep)
    (first | (go_at_call 42; refine (L0 _).mono ?_; rintro e w1 ⟨rfl, hb1⟩; have mx0 : w1.cell? ⟨b, 0, none⟩ = some (.int .i64 a0) := keepc hb1 (by simp [x0]); have mx1 : w1.cell? ⟨b, 1, none⟩ = some (.int .i64 a1) := keepc hb1 (by simp [x1]); have mx2 : w1.cell? ⟨b, 2, none⟩ = some (.int .i64 a2) := keepc hb1 (by simp [x2]); have mx3 : w1.cell? ⟨b, 3, none⟩ = some (.int .i64 a3) := keepc hb1 (by simp [x3]); have mx4 : w1.cell? ⟨b, 4, none⟩ = some (.int .i64 a4) := keepc hb1 (by simp [x4]); have mx5 : w1.cell? ⟨b, 5, none⟩ = some (.int .i64 a5) := keepc hb1 (by simp [x5]); have my0 : w1.cell? ⟨c, 0, none⟩ = some (.int .i64 b0) := keepc hb1 (by simp [y0]); have my1 : w1.cell? ⟨c, 1, none⟩ = some (.int .i64 b1) := keepc hb1 (by simp [y1]); have my2 : w1.cell? ⟨c, 2, none⟩ = some (.int .i64 b2) := keepc hb1 (by simp [y2]); have my3 : w1.cell? ⟨c, 3, none⟩ = some (.int .i64 b3) := keepc hb1 (by simp [y3]); have my4 : w1.cell? ⟨c, 4, none⟩ = some (.int .i64 b4) := keepc hb1 (by simp [y4]); have my5 : w1.cell? ⟨c, 5, none⟩ = some (.int .i64 b5) := keepc hb1 (by simp [y5])))
  have B1 : Below w.heap.size w w1 := chain (Below.drew (Below.refl _ _)) hb1
  clear hb1 x0 x1 x2 x3 x4 x5 y0 y1 y2 y3 y4 y5
  go_wp2_with fail
  rw [rounds_succ]
  go_wp2_with fail
  go_region_held3 (fun w' => w'.cell? ⟨b, 0, none⟩ = some (.int .i64 a0) ∧ w'.cell? ⟨b, 1, none⟩ = some (.int .i64 a1) ∧ w'.cell? ⟨b, 2, none⟩ = some (.int .i64 a2) ∧ w'.cell? ⟨b, 3, none⟩ = some (.int .i64 a3) ∧ w'.cell? ⟨b, 4, none⟩ = some (.int .i64 a4) ∧ w'.cell? ⟨b, 5, none⟩ = some (.int .i64 a5) ∧ w'.cell? ⟨c, 0, none⟩ = some (.int .i64 b0) ∧ w'.cell? ⟨c, 1, none⟩ = some (.int .i64 b1) ∧ w'.cell? ⟨c, 2, none⟩ = some (.int .i64 b2) ∧ w'.cell? ⟨c, 3, none⟩ = some (.int .i64 b3) ∧ w'.cell? ⟨c, 4, none⟩ = some (.int .i64 b4) ∧ w'.cell? ⟨c, 5, none⟩ = some (.int .i64 b5)) (go_keep)
    (first | (go_at_call 42; refine (L1 _).mono ?_; rintro e w2 ⟨rfl, hb2⟩; have mmx0 : w2.cell? ⟨b, 0, none⟩ = some (.int .i64 a0) := keepc hb2 (by simp [mx0]); have mmx1 : w2.cell? ⟨b, 1, none⟩ = some (.int .i64 a1) := keepc hb2 (by simp [mx1]); have mmx2 : w2.cell? ⟨b, 2, none⟩ = some (.int .i64 a2) := keepc hb2 (by simp [mx2]); have mmx3 : w2.cell? ⟨b, 3, none⟩ = some (.int .i64 a3) := keepc hb2 (by simp [mx3]); have mmx4 : w2.cell? ⟨b, 4, none⟩ = some (.int .i64 a4) := keepc hb2 (by simp [mx4]); have mmx5 : w2.cell? ⟨b, 5, none⟩ = some (.int .i64 a5) := keepc hb2 (by simp [mx5]); have mmy0 : w2.cell? ⟨c, 0, none⟩ = some (.int .i64 b0) := keepc hb2 (by simp [my0]); have mmy1 : w2.cell? ⟨c, 1, none⟩ = some (.int .i64 b1) := keepc hb2 (by simp [my1]); have mmy2 : w2.cell? ⟨c, 2, none⟩ = some (.int .i64 b2) := keepc hb2 (by simp [my2]); have mmy3 : w2.cell? ⟨c, 3, none⟩ = some (.int .i64 b3) := keepc hb2 (by simp [my3]); have mmy4 : w2.cell? ⟨c, 4, none⟩ = some (.int .i64 b4) := keepc hb2 (by simp [my4]); have mmy5 : w2.cell? ⟨c, 5, none⟩ = some (.int .i64 b5) := keepc hb2 (by simp [my5])))
  have B2 : Below w.heap.size w w2 := chain (Below.drew B1) hb2
  clear hb2 B1 mx0 mx1 mx2 mx3 mx4 mx5 my0 my1 my2 my3 my4 my5
  go_wp2_with fail
  rw [rounds_succ]
  go_wp2_with fail
  go_ret
  exact ⟨rfl, B2⟩
set_option maxHeartbeats 1000000 in
theorem likeall3 (b c cb cc : Nat) (a0 a1 a2 a3 a4 a5 a6 a7 a8 b0 b1 b2 b3 b4 b5 b6 b7 b8 : Int) (w : World)
    (x0 : w.cell? ⟨b, 0, none⟩ = some (.int .i64 a0)) (x1 : w.cell? ⟨b, 1, none⟩ = some (.int .i64 a1)) (x2 : w.cell? ⟨b, 2, none⟩ = some (.int .i64 a2)) (x3 : w.cell? ⟨b, 3, none⟩ = some (.int .i64 a3)) (x4 : w.cell? ⟨b, 4, none⟩ = some (.int .i64 a4)) (x5 : w.cell? ⟨b, 5, none⟩ = some (.int .i64 a5)) (x6 : w.cell? ⟨b, 6, none⟩ = some (.int .i64 a6)) (x7 : w.cell? ⟨b, 7, none⟩ = some (.int .i64 a7)) (x8 : w.cell? ⟨b, 8, none⟩ = some (.int .i64 a8)) (y0 : w.cell? ⟨c, 0, none⟩ = some (.int .i64 b0)) (y1 : w.cell? ⟨c, 1, none⟩ = some (.int .i64 b1)) (y2 : w.cell? ⟨c, 2, none⟩ = some (.int .i64 b2)) (y3 : w.cell? ⟨c, 3, none⟩ = some (.int .i64 b3)) (y4 : w.cell? ⟨c, 4, none⟩ = some (.int .i64 b4)) (y5 : w.cell? ⟨c, 5, none⟩ = some (.int .i64 b5)) (y6 : w.cell? ⟨c, 6, none⟩ = some (.int .i64 b6)) (y7 : w.cell? ⟨c, 7, none⟩ = some (.int .i64 b7)) (y8 : w.cell? ⟨c, 8, none⟩ = some (.int .i64 b8))
    (L0 : ∀ w, Calls Try.prog 42 #[.agg #[.int .i64 a0, .int .i64 a1, .int .i64 a2], .agg #[.int .i64 b0, .int .i64 b1, .int .i64 b2]] w fun e w' => e = .returned (.bool true) ∧ Below w.heap.size w w') (L1 : ∀ w, Calls Try.prog 42 #[.agg #[.int .i64 a3, .int .i64 a4, .int .i64 a5], .agg #[.int .i64 b3, .int .i64 b4, .int .i64 b5]] w fun e w' => e = .returned (.bool true) ∧ Below w.heap.size w w') (L2 : ∀ w, Calls Try.prog 42 #[.agg #[.int .i64 a6, .int .i64 a7, .int .i64 a8], .agg #[.int .i64 b6, .int .i64 b7, .int .i64 b8]] w fun e w' => e = .returned (.bool true) ∧ Below w.heap.size w w') :
    Calls Try.prog 16 #[.slice (some ⟨b, 0, none⟩) 3 cb, .slice (some ⟨c, 0, none⟩) 3 cc] w fun e w' => e = .returned (.bool true) ∧ Below w.heap.size w w' := by
  go_enter Try.func16, Try.ntmps16
  go_wp2_with fail
  refine wp_loop_rounds 4 ?_
  rw [rounds_succ]
  go_wp2_with fail
  go_region_held3 (fun w' => w'.cell? ⟨b, 0, none⟩ = some (.int .i64 a0) ∧ w'.cell? ⟨b, 1, none⟩ = some (.int .i64 a1) ∧ w'.cell? ⟨b, 2, none⟩ = some (.int .i64 a2) ∧ w'.cell? ⟨b, 3, none⟩ = some (.int .i64 a3) ∧ w'.cell? ⟨b, 4, none⟩ = some (.int .i64 a4) ∧ w'.cell? ⟨b, 5, none⟩ = some (.int .i64 a5) ∧ w'.cell? ⟨b, 6, none⟩ = some (.int .i64 a6) ∧ w'.cell? ⟨b, 7, none⟩ = some (.int .i64 a7) ∧ w'.cell? ⟨b, 8, none⟩ = some (.int .i64 a8) ∧ w'.cell? ⟨c, 0, none⟩ = some (.int .i64 b0) ∧ w'.cell? ⟨c, 1, none⟩ = some (.int .i64 b1) ∧ w'.cell? ⟨c, 2, none⟩ = some (.int .i64 b2) ∧ w'.cell? ⟨c, 3, none⟩ = some (.int .i64 b3) ∧ w'.cell? ⟨c, 4, none⟩ = some (.int .i64 b4) ∧ w'.cell? ⟨c, 5, none⟩ = some (.int .i64 b5) ∧ w'.cell? ⟨c, 6, none⟩ = some (.int .i64 b6) ∧ w'.cell? ⟨c, 7, none⟩ = some (.int .i64 b7) ∧ w'.cell? ⟨c, 8, none⟩ = some (.int .i64 b8)) (go_keep)
    (first | (go_at_call 42; refine (L0 _).mono ?_; rintro e w1 ⟨rfl, hb1⟩; have mx0 : w1.cell? ⟨b, 0, none⟩ = some (.int .i64 a0) := keepc hb1 (by simp [x0]); have mx1 : w1.cell? ⟨b, 1, none⟩ = some (.int .i64 a1) := keepc hb1 (by simp [x1]); have mx2 : w1.cell? ⟨b, 2, none⟩ = some (.int .i64 a2) := keepc hb1 (by simp [x2]); have mx3 : w1.cell? ⟨b, 3, none⟩ = some (.int .i64 a3) := keepc hb1 (by simp [x3]); have mx4 : w1.cell? ⟨b, 4, none⟩ = some (.int .i64 a4) := keepc hb1 (by simp [x4]); have mx5 : w1.cell? ⟨b, 5, none⟩ = some (.int .i64 a5) := keepc hb1 (by simp [x5]); have mx6 : w1.cell? ⟨b, 6, none⟩ = some (.int .i64 a6) := keepc hb1 (by simp [x6]); have mx7 : w1.cell? ⟨b, 7, none⟩ = some (.int .i64 a7) := keepc hb1 (by simp [x7]); have mx8 : w1.cell? ⟨b, 8, none⟩ = some (.int .i64 a8) := keepc hb1 (by simp [x8]); have my0 : w1.cell? ⟨c, 0, none⟩ = some (.int .i64 b0) := keepc hb1 (by simp [y0]); have my1 : w1.cell? ⟨c, 1, none⟩ = some (.int .i64 b1) := keepc hb1 (by simp [y1]); have my2 : w1.cell? ⟨c, 2, none⟩ = some (.int .i64 b2) := keepc hb1 (by simp [y2]); have my3 : w1.cell? ⟨c, 3, none⟩ = some (.int .i64 b3) := keepc hb1 (by simp [y3]); have my4 : w1.cell? ⟨c, 4, none⟩ = some (.int .i64 b4) := keepc hb1 (by simp [y4]); have my5 : w1.cell? ⟨c, 5, none⟩ = some (.int .i64 b5) := keepc hb1 (by simp [y5]); have my6 : w1.cell? ⟨c, 6, none⟩ = some (.int .i64 b6) := keepc hb1 (by simp [y6]); have my7 : w1.cell? ⟨c, 7, none⟩ = some (.int .i64 b7) := keepc hb1 (by simp [y7]); have my8 : w1.cell? ⟨c, 8, none⟩ = some (.int .i64 b8) := keepc hb1 (by simp [y8])))
  have B1 : Below w.heap.size w w1 := chain (Below.drew (Below.refl _ _)) hb1
  clear hb1 x0 x1 x2 x3 x4 x5 x6 x7 x8 y0 y1 y2 y3 y4 y5 y6 y7 y8
  go_wp2_with fail
  rw [rounds_succ]
  go_wp2_with fail
  go_region_held3 (fun w' => w'.cell? ⟨b, 0, none⟩ = some (.int .i64 a0) ∧ w'.cell? ⟨b, 1, none⟩ = some (.int .i64 a1) ∧ w'.cell? ⟨b, 2, none⟩ = some (.int .i64 a2) ∧ w'.cell? ⟨b, 3, none⟩ = some (.int .i64 a3) ∧ w'.cell? ⟨b, 4, none⟩ = some (.int .i64 a4) ∧ w'.cell? ⟨b, 5, none⟩ = some (.int .i64 a5) ∧ w'.cell? ⟨b, 6, none⟩ = some (.int .i64 a6) ∧ w'.cell? ⟨b, 7, none⟩ = some (.int .i64 a7) ∧ w'.cell? ⟨b, 8, none⟩ = some (.int .i64 a8) ∧ w'.cell? ⟨c, 0, none⟩ = some (.int .i64 b0) ∧ w'.cell? ⟨c, 1, none⟩ = some (.int .i64 b1) ∧ w'.cell? ⟨c, 2, none⟩ = some (.int .i64 b2) ∧ w'.cell? ⟨c, 3, none⟩ = some (.int .i64 b3) ∧ w'.cell? ⟨c, 4, none⟩ = some (.int .i64 b4) ∧ w'.cell? ⟨c, 5, none⟩ = some (.int .i64 b5) ∧ w'.cell? ⟨c, 6, none⟩ = some (.int .i64 b6) ∧ w'.cell? ⟨c, 7, none⟩ = some (.int .i64 b7) ∧ w'.cell? ⟨c, 8, none⟩ = some (.int .i64 b8)) (go_keep)
    (first | (go_at_call 42; refine (L1 _).mono ?_; rintro e w2 ⟨rfl, hb2⟩; have mmx0 : w2.cell? ⟨b, 0, none⟩ = some (.int .i64 a0) := keepc hb2 (by simp [mx0]); have mmx1 : w2.cell? ⟨b, 1, none⟩ = some (.int .i64 a1) := keepc hb2 (by simp [mx1]); have mmx2 : w2.cell? ⟨b, 2, none⟩ = some (.int .i64 a2) := keepc hb2 (by simp [mx2]); have mmx3 : w2.cell? ⟨b, 3, none⟩ = some (.int .i64 a3) := keepc hb2 (by simp [mx3]); have mmx4 : w2.cell? ⟨b, 4, none⟩ = some (.int .i64 a4) := keepc hb2 (by simp [mx4]); have mmx5 : w2.cell? ⟨b, 5, none⟩ = some (.int .i64 a5) := keepc hb2 (by simp [mx5]); have mmx6 : w2.cell? ⟨b, 6, none⟩ = some (.int .i64 a6) := keepc hb2 (by simp [mx6]); have mmx7 : w2.cell? ⟨b, 7, none⟩ = some (.int .i64 a7) := keepc hb2 (by simp [mx7]); have mmx8 : w2.cell? ⟨b, 8, none⟩ = some (.int .i64 a8) := keepc hb2 (by simp [mx8]); have mmy0 : w2.cell? ⟨c, 0, none⟩ = some (.int .i64 b0) := keepc hb2 (by simp [my0]); have mmy1 : w2.cell? ⟨c, 1, none⟩ = some (.int .i64 b1) := keepc hb2 (by simp [my1]); have mmy2 : w2.cell? ⟨c, 2, none⟩ = some (.int .i64 b2) := keepc hb2 (by simp [my2]); have mmy3 : w2.cell? ⟨c, 3, none⟩ = some (.int .i64 b3) := keepc hb2 (by simp [my3]); have mmy4 : w2.cell? ⟨c, 4, none⟩ = some (.int .i64 b4) := keepc hb2 (by simp [my4]); have mmy5 : w2.cell? ⟨c, 5, none⟩ = some (.int .i64 b5) := keepc hb2 (by simp [my5]); have mmy6 : w2.cell? ⟨c, 6, none⟩ = some (.int .i64 b6) := keepc hb2 (by simp [my6]); have mmy7 : w2.cell? ⟨c, 7, none⟩ = some (.int .i64 b7) := keepc hb2 (by simp [my7]); have mmy8 : w2.cell? ⟨c, 8, none⟩ = some (.int .i64 b8) := keepc hb2 (by simp [my8])))
  have B2 : Below w.heap.size w w2 := chain (Below.drew B1) hb2
  clear hb2 B1 mx0 mx1 mx2 mx3 mx4 mx5 mx6 mx7 mx8 my0 my1 my2 my3 my4 my5 my6 my7 my8
  go_wp2_with fail
  rw [rounds_succ]
  go_wp2_with fail
  go_region_held3 (fun w' => w'.cell? ⟨b, 0, none⟩ = some (.int .i64 a0) ∧ w'.cell? ⟨b, 1, none⟩ = some (.int .i64 a1) ∧ w'.cell? ⟨b, 2, none⟩ = some (.int .i64 a2) ∧ w'.cell? ⟨b, 3, none⟩ = some (.int .i64 a3) ∧ w'.cell? ⟨b, 4, none⟩ = some (.int .i64 a4) ∧ w'.cell? ⟨b, 5, none⟩ = some (.int .i64 a5) ∧ w'.cell? ⟨b, 6, none⟩ = some (.int .i64 a6) ∧ w'.cell? ⟨b, 7, none⟩ = some (.int .i64 a7) ∧ w'.cell? ⟨b, 8, none⟩ = some (.int .i64 a8) ∧ w'.cell? ⟨c, 0, none⟩ = some (.int .i64 b0) ∧ w'.cell? ⟨c, 1, none⟩ = some (.int .i64 b1) ∧ w'.cell? ⟨c, 2, none⟩ = some (.int .i64 b2) ∧ w'.cell? ⟨c, 3, none⟩ = some (.int .i64 b3) ∧ w'.cell? ⟨c, 4, none⟩ = some (.int .i64 b4) ∧ w'.cell? ⟨c, 5, none⟩ = some (.int .i64 b5) ∧ w'.cell? ⟨c, 6, none⟩ = some (.int .i64 b6) ∧ w'.cell? ⟨c, 7, none⟩ = some (.int .i64 b7) ∧ w'.cell? ⟨c, 8, none⟩ = some (.int .i64 b8)) (go_keep)
    (first | (go_at_call 42; refine (L2 _).mono ?_; rintro e w3 ⟨rfl, hb3⟩; have mmmx0 : w3.cell? ⟨b, 0, none⟩ = some (.int .i64 a0) := keepc hb3 (by simp [mmx0]); have mmmx1 : w3.cell? ⟨b, 1, none⟩ = some (.int .i64 a1) := keepc hb3 (by simp [mmx1]); have mmmx2 : w3.cell? ⟨b, 2, none⟩ = some (.int .i64 a2) := keepc hb3 (by simp [mmx2]); have mmmx3 : w3.cell? ⟨b, 3, none⟩ = some (.int .i64 a3) := keepc hb3 (by simp [mmx3]); have mmmx4 : w3.cell? ⟨b, 4, none⟩ = some (.int .i64 a4) := keepc hb3 (by simp [mmx4]); have mmmx5 : w3.cell? ⟨b, 5, none⟩ = some (.int .i64 a5) := keepc hb3 (by simp [mmx5]); have mmmx6 : w3.cell? ⟨b, 6, none⟩ = some (.int .i64 a6) := keepc hb3 (by simp [mmx6]); have mmmx7 : w3.cell? ⟨b, 7, none⟩ = some (.int .i64 a7) := keepc hb3 (by simp [mmx7]); have mmmx8 : w3.cell? ⟨b, 8, none⟩ = some (.int .i64 a8) := keepc hb3 (by simp [mmx8]); have mmmy0 : w3.cell? ⟨c, 0, none⟩ = some (.int .i64 b0) := keepc hb3 (by simp [mmy0]); have mmmy1 : w3.cell? ⟨c, 1, none⟩ = some (.int .i64 b1) := keepc hb3 (by simp [mmy1]); have mmmy2 : w3.cell? ⟨c, 2, none⟩ = some (.int .i64 b2) := keepc hb3 (by simp [mmy2]); have mmmy3 : w3.cell? ⟨c, 3, none⟩ = some (.int .i64 b3) := keepc hb3 (by simp [mmy3]); have mmmy4 : w3.cell? ⟨c, 4, none⟩ = some (.int .i64 b4) := keepc hb3 (by simp [mmy4]); have mmmy5 : w3.cell? ⟨c, 5, none⟩ = some (.int .i64 b5) := keepc hb3 (by simp [mmy5]); have mmmy6 : w3.cell? ⟨c, 6, none⟩ = some (.int .i64 b6) := keepc hb3 (by simp [mmy6]); have mmmy7 : w3.cell? ⟨c, 7, none⟩ = some (.int .i64 b7) := keepc hb3 (by simp [mmy7]); have mmmy8 : w3.cell? ⟨c, 8, none⟩ = some (.int .i64 b8) := keepc hb3 (by simp [mmy8])))
  have B3 : Below w.heap.size w w3 := chain (Below.drew B2) hb3
  clear hb3 B2 mmx0 mmx1 mmx2 mmx3 mmx4 mmx5 mmx6 mmx7 mmx8 mmy0 mmy1 mmy2 mmy3 mmy4 mmy5 mmy6 mmy7 mmy8
  go_wp2_with fail
  rw [rounds_succ]
  go_wp2_with fail
  go_ret
  exact ⟨rfl, B3⟩
set_option maxHeartbeats 1000000 in
theorem listed_rm (r0 r1 s2 : Int) (lo_r0 : 0 ≤ r0) (hi_r0 : r0 < 65536) (lo_r1 : 0 ≤ r1) (hi_r1 : r1 < 65536) (lo_s2 : -2147483648 ≤ s2) (hi_s2 : s2 < 2147483648) (w : World) : Calls Try.prog 41 #[.agg #[(.iface 50 (.int .u16 r0)), (.iface 54 (.agg #[.int .u16 r1, .int .i32 s2, .bool true, .int .u8 12])), .nilIface, .nilIface, .nilIface, .nilIface]] w fun e w' => ∃ g cap, e = .returned (.slice (some ⟨g, 0, none⟩) 2 cap) ∧ RowAt w' g [.int .i64 1, .int .i64 r0, .int .i64 0, .int .i64 3, .int .i64 r1, .int .i64 s2] ∧ Below w.heap.size w w' := by
  obtain ⟨i0, hi, hz0, hz1, hz2⟩ := info_parts infoArg
  go_enter Try.func41, Try.ntmps41
  go_wp2
  refine wp_loop_rounds 7 ?_
  rw [rounds_succ]
  go_wp2_with (first | (at_builtin; go_must ((refine wpList_append_own _ rfl _ _ 23 rfl w.heap.size 27 i0 (.agg #[.int .i64 0, .int .i64 0, .int .i64 0]) 3 24 Try.underlying23 hi hz0 hz1 hz2 rfl (by decide) _ 0 [] rfl ?c0 _ 1 1 [.int .i64 1, .int .i64 r0, .int .i64 0] rfl rfl ?c1 ?c2 ?c3 ?c4 ?c5 ?_); (case c0 => exact World.ownsRow_nil _ _ _ _); (case c1 => exact cells3 _ _ _ _ _ _ (by simp)); (case c2 => exact one3 _ _ _); (case c3 => unfold maxLen; omega); (case c4 => omega); (case c5 => simp; omega); intro v1 w1 hown1 hgrow1 _)) | go_in)
  have hb1 : Below w.heap.size w w1 := below_new (v := .slice none 0 0) (n := 0) (xs := []) (by repeat (first |  (with_reducible exact Below.refl _ _) | (with_reducible refine Below.alloc ?_ ?_ _) | (with_reducible refine Below.setCell ?_ ?_ _) | go_size)) (by simp; omega) (World.ownsRow_nil _ _ _ _) hgrow1
  have hs1 := hb1.size
  clear hgrow1
  simp only [Nat.zero_add, List.nil_append] at hown1
  rw [rounds_succ]
  go_wp2_with (first | (at_builtin; go_must ((refine wpList_append_own _ rfl _ _ 23 rfl w.heap.size 27 i0 (.agg #[.int .i64 0, .int .i64 0, .int .i64 0]) 3 24 Try.underlying23 hi hz0 hz1 hz2 rfl (by decide) _ 1 [.int .i64 1, .int .i64 r0, .int .i64 0] rfl ?c0 _ 1 1 [.int .i64 3, .int .i64 r1, .int .i64 s2] rfl rfl ?c1 ?c2 ?c3 ?c4 ?c5 ?_); (case c0 => repeat (first | exact hown1 | refine World.ownsRow.alloc ?_ _)); (case c1 => exact cells3 _ _ _ _ _ _ (by simp)); (case c2 => exact one3 _ _ _); (case c3 => unfold maxLen; omega); (case c4 => omega); (case c5 => simp; omega); intro v2 w2 hown2 hgrow2 _)) | go_in)
  have hb2 : Below w.heap.size w w2 := below_new (v := v1) (n := 1) (xs := [.int .i64 1, .int .i64 r0, .int .i64 0]) (by repeat (first | exact hb1 | (with_reducible exact Below.refl _ _) | (with_reducible refine Below.alloc ?_ ?_ _) | (with_reducible refine Below.setCell ?_ ?_ _) | go_size)) (by simp; omega) (by repeat (first | exact hown1 | refine World.ownsRow.alloc ?_ _)) hgrow2
  have hs2 := hb2.size
  clear hgrow2 hown1 hb1 hs1
  simp only [Nat.reduceAdd, List.cons_append, List.nil_append] at hown2
  rw [rounds_succ]
  go_wp2
  rw [rounds_succ]
  go_wp2
  rw [rounds_succ]
  go_wp2
  rw [rounds_succ]
  go_wp2
  rw [rounds_succ]
  go_wp2
  go_ret
  obtain ⟨g, cap, hv, hrow⟩ := rowAt_of_owns hown2
  exact ⟨g, cap, congrArg Ending.returned hv, hrow, hb2⟩
set_option maxHeartbeats 1000000 in
theorem listed_rrr (r0 r1 r2 : Int) (lo_r0 : 0 ≤ r0) (hi_r0 : r0 < 65536) (lo_r1 : 0 ≤ r1) (hi_r1 : r1 < 65536) (lo_r2 : 0 ≤ r2) (hi_r2 : r2 < 65536) (w : World) : Calls Try.prog 41 #[.agg #[(.iface 50 (.int .u16 r0)), (.iface 50 (.int .u16 r1)), (.iface 50 (.int .u16 r2)), .nilIface, .nilIface, .nilIface]] w fun e w' => ∃ g cap, e = .returned (.slice (some ⟨g, 0, none⟩) 3 cap) ∧ RowAt w' g [.int .i64 1, .int .i64 r0, .int .i64 0, .int .i64 1, .int .i64 r1, .int .i64 0, .int .i64 1, .int .i64 r2, .int .i64 0] ∧ Below w.heap.size w w' := by
  obtain ⟨i0, hi, hz0, hz1, hz2⟩ := info_parts infoArg
  go_enter Try.func41, Try.ntmps41
  go_wp2
  refine wp_loop_rounds 7 ?_
  rw [rounds_succ]
  go_wp2_with (first | (at_builtin; go_must ((refine wpList_append_own _ rfl _ _ 23 rfl w.heap.size 27 i0 (.agg #[.int .i64 0, .int .i64 0, .int .i64 0]) 3 24 Try.underlying23 hi hz0 hz1 hz2 rfl (by decide) _ 0 [] rfl ?c0 _ 1 1 [.int .i64 1, .int .i64 r0, .int .i64 0] rfl rfl ?c1 ?c2 ?c3 ?c4 ?c5 ?_); (case c0 => exact World.ownsRow_nil _ _ _ _); (case c1 => exact cells3 _ _ _ _ _ _ (by simp)); (case c2 => exact one3 _ _ _); (case c3 => unfold maxLen; omega); (case c4 => omega); (case c5 => simp; omega); intro v1 w1 hown1 hgrow1 _)) | go_in)
  have hb1 : Below w.heap.size w w1 := below_new (v := .slice none 0 0) (n := 0) (xs := []) (by repeat (first |  (with_reducible exact Below.refl _ _) | (with_reducible refine Below.alloc ?_ ?_ _) | (with_reducible refine Below.setCell ?_ ?_ _) | go_size)) (by simp; omega) (World.ownsRow_nil _ _ _ _) hgrow1
  have hs1 := hb1.size
  clear hgrow1
  simp only [Nat.zero_add, List.nil_append] at hown1
  rw [rounds_succ]
  go_wp2_with (first | (at_builtin; go_must ((refine wpList_append_own _ rfl _ _ 23 rfl w.heap.size 27 i0 (.agg #[.int .i64 0, .int .i64 0, .int .i64 0]) 3 24 Try.underlying23 hi hz0 hz1 hz2 rfl (by decide) _ 1 [.int .i64 1, .int .i64 r0, .int .i64 0] rfl ?c0 _ 1 1 [.int .i64 1, .int .i64 r1, .int .i64 0] rfl rfl ?c1 ?c2 ?c3 ?c4 ?c5 ?_); (case c0 => repeat (first | exact hown1 | refine World.ownsRow.alloc ?_ _)); (case c1 => exact cells3 _ _ _ _ _ _ (by simp)); (case c2 => exact one3 _ _ _); (case c3 => unfold maxLen; omega); (case c4 => omega); (case c5 => simp; omega); intro v2 w2 hown2 hgrow2 _)) | go_in)
  have hb2 : Below w.heap.size w w2 := below_new (v := v1) (n := 1) (xs := [.int .i64 1, .int .i64 r0, .int .i64 0]) (by repeat (first | exact hb1 | (with_reducible exact Below.refl _ _) | (with_reducible refine Below.alloc ?_ ?_ _) | (with_reducible refine Below.setCell ?_ ?_ _) | go_size)) (by simp; omega) (by repeat (first | exact hown1 | refine World.ownsRow.alloc ?_ _)) hgrow2
  have hs2 := hb2.size
  clear hgrow2 hown1 hb1 hs1
  simp only [Nat.reduceAdd, List.cons_append, List.nil_append] at hown2
  rw [rounds_succ]
  go_wp2_with (first | (at_builtin; go_must ((refine wpList_append_own _ rfl _ _ 23 rfl w.heap.size 27 i0 (.agg #[.int .i64 0, .int .i64 0, .int .i64 0]) 3 24 Try.underlying23 hi hz0 hz1 hz2 rfl (by decide) _ 2 [.int .i64 1, .int .i64 r0, .int .i64 0, .int .i64 1, .int .i64 r1, .int .i64 0] rfl ?c0 _ 1 1 [.int .i64 1, .int .i64 r2, .int .i64 0] rfl rfl ?c1 ?c2 ?c3 ?c4 ?c5 ?_); (case c0 => repeat (first | exact hown2 | refine World.ownsRow.alloc ?_ _)); (case c1 => exact cells3 _ _ _ _ _ _ (by simp)); (case c2 => exact one3 _ _ _); (case c3 => unfold maxLen; omega); (case c4 => omega); (case c5 => simp; omega); intro v3 w3 hown3 hgrow3 _)) | go_in)
  have hb3 : Below w.heap.size w w3 := below_new (v := v2) (n := 2) (xs := [.int .i64 1, .int .i64 r0, .int .i64 0, .int .i64 1, .int .i64 r1, .int .i64 0]) (by repeat (first | exact hb2 | (with_reducible exact Below.refl _ _) | (with_reducible refine Below.alloc ?_ ?_ _) | (with_reducible refine Below.setCell ?_ ?_ _) | go_size)) (by simp; omega) (by repeat (first | exact hown2 | refine World.ownsRow.alloc ?_ _)) hgrow3
  have hs3 := hb3.size
  clear hgrow3 hown2 hb2 hs2
  simp only [Nat.reduceAdd, List.cons_append, List.nil_append] at hown3
  rw [rounds_succ]
  go_wp2
  rw [rounds_succ]
  go_wp2
  rw [rounds_succ]
  go_wp2
  rw [rounds_succ]
  go_wp2
  go_ret
  obtain ⟨g, cap, hv, hrow⟩ := rowAt_of_owns hown3
  exact ⟨g, cap, congrArg Ending.returned hv, hrow, hb3⟩
set_option maxHeartbeats 1000000 in
theorem listed_rrs (r0 r1 s2 : Int) (lo_r0 : 0 ≤ r0) (hi_r0 : r0 < 65536) (lo_r1 : 0 ≤ r1) (hi_r1 : r1 < 65536) (lo_s2 : -2147483648 ≤ s2) (hi_s2 : s2 < 2147483648) (w : World) : Calls Try.prog 41 #[.agg #[(.iface 50 (.int .u16 r0)), (.iface 50 (.int .u16 r1)), (.iface 52 (.agg #[.int .i32 s2, .bool true, .int .u8 12])), .nilIface, .nilIface, .nilIface]] w fun e w' => ∃ g cap, e = .returned (.slice (some ⟨g, 0, none⟩) 3 cap) ∧ RowAt w' g [.int .i64 1, .int .i64 r0, .int .i64 0, .int .i64 1, .int .i64 r1, .int .i64 0, .int .i64 4, .int .i64 0, .int .i64 s2] ∧ Below w.heap.size w w' := by
  obtain ⟨i0, hi, hz0, hz1, hz2⟩ := info_parts infoArg
  go_enter Try.func41, Try.ntmps41
  go_wp2
  refine wp_loop_rounds 7 ?_
  rw [rounds_succ]
  go_wp2_with (first | (at_builtin; go_must ((refine wpList_append_own _ rfl _ _ 23 rfl w.heap.size 27 i0 (.agg #[.int .i64 0, .int .i64 0, .int .i64 0]) 3 24 Try.underlying23 hi hz0 hz1 hz2 rfl (by decide) _ 0 [] rfl ?c0 _ 1 1 [.int .i64 1, .int .i64 r0, .int .i64 0] rfl rfl ?c1 ?c2 ?c3 ?c4 ?c5 ?_); (case c0 => exact World.ownsRow_nil _ _ _ _); (case c1 => exact cells3 _ _ _ _ _ _ (by simp)); (case c2 => exact one3 _ _ _); (case c3 => unfold maxLen; omega); (case c4 => omega); (case c5 => simp; omega); intro v1 w1 hown1 hgrow1 _)) | go_in)
  have hb1 : Below w.heap.size w w1 := below_new (v := .slice none 0 0) (n := 0) (xs := []) (by repeat (first |  (with_reducible exact Below.refl _ _) | (with_reducible refine Below.alloc ?_ ?_ _) | (with_reducible refine Below.setCell ?_ ?_ _) | go_size)) (by simp; omega) (World.ownsRow_nil _ _ _ _) hgrow1
  have hs1 := hb1.size
  clear hgrow1
  simp only [Nat.zero_add, List.nil_append] at hown1
  rw [rounds_succ]
  go_wp2_with (first | (at_builtin; go_must ((refine wpList_append_own _ rfl _ _ 23 rfl w.heap.size 27 i0 (.agg #[.int .i64 0, .int .i64 0, .int .i64 0]) 3 24 Try.underlying23 hi hz0 hz1 hz2 rfl (by decide) _ 1 [.int .i64 1, .int .i64 r0, .int .i64 0] rfl ?c0 _ 1 1 [.int .i64 1, .int .i64 r1, .int .i64 0] rfl rfl ?c1 ?c2 ?c3 ?c4 ?c5 ?_); (case c0 => repeat (first | exact hown1 | refine World.ownsRow.alloc ?_ _)); (case c1 => exact cells3 _ _ _ _ _ _ (by simp)); (case c2 => exact one3 _ _ _); (case c3 => unfold maxLen; omega); (case c4 => omega); (case c5 => simp; omega); intro v2 w2 hown2 hgrow2 _)) | go_in)
  have hb2 : Below w.heap.size w w2 := below_new (v := v1) (n := 1) (xs := [.int .i64 1, .int .i64 r0, .int .i64 0]) (by repeat (first | exact hb1 | (with_reducible exact Below.refl _ _) | (with_reducible refine Below.alloc ?_ ?_ _) | (with_reducible refine Below.setCell ?_ ?_ _) | go_size)) (by simp; omega) (by repeat (first | exact hown1 | refine World.ownsRow.alloc ?_ _)) hgrow2
  have hs2 := hb2.size
  clear hgrow2 hown1 hb1 hs1
  simp only [Nat.reduceAdd, List.cons_append, List.nil_append] at hown2
  rw [rounds_succ]
  go_wp2_with (first | (at_builtin; go_must ((refine wpList_append_own _ rfl _ _ 23 rfl w.heap.size 27 i0 (.agg #[.int .i64 0, .int .i64 0, .int .i64 0]) 3 24 Try.underlying23 hi hz0 hz1 hz2 rfl (by decide) _ 2 [.int .i64 1, .int .i64 r0, .int .i64 0, .int .i64 1, .int .i64 r1, .int .i64 0] rfl ?c0 _ 1 1 [.int .i64 4, .int .i64 0, .int .i64 s2] rfl rfl ?c1 ?c2 ?c3 ?c4 ?c5 ?_); (case c0 => repeat (first | exact hown2 | refine World.ownsRow.alloc ?_ _)); (case c1 => exact cells3 _ _ _ _ _ _ (by simp)); (case c2 => exact one3 _ _ _); (case c3 => unfold maxLen; omega); (case c4 => omega); (case c5 => simp; omega); intro v3 w3 hown3 hgrow3 _)) | go_in)
  have hb3 : Below w.heap.size w w3 := below_new (v := v2) (n := 2) (xs := [.int .i64 1, .int .i64 r0, .int .i64 0, .int .i64 1, .int .i64 r1, .int .i64 0]) (by repeat (first | exact hb2 | (with_reducible exact Below.refl _ _) | (with_reducible refine Below.alloc ?_ ?_ _) | (with_reducible refine Below.setCell ?_ ?_ _) | go_size)) (by simp; omega) (by repeat (first | exact hown2 | refine World.ownsRow.alloc ?_ _)) hgrow3
  have hs3 := hb3.size
  clear hgrow3 hown2 hb2 hs2
  simp only [Nat.reduceAdd, List.cons_append, List.nil_append] at hown3
  rw [rounds_succ]
  go_wp2
  rw [rounds_succ]
  go_wp2
  rw [rounds_succ]
  go_wp2
  rw [rounds_succ]
  go_wp2
  go_ret
  obtain ⟨g, cap, hv, hrow⟩ := rowAt_of_owns hown3
  exact ⟨g, cap, congrArg Ending.returned hv, hrow, hb3⟩
set_option maxHeartbeats 1000000 in
theorem listed_rrs13 (r0 r1 s2 : Int) (lo_r0 : 0 ≤ r0) (hi_r0 : r0 < 65536) (lo_r1 : 0 ≤ r1) (hi_r1 : r1 < 65536) (lo_s2 : -2147483648 ≤ s2) (hi_s2 : s2 < 2147483648) (w : World) : Calls Try.prog 41 #[.agg #[(.iface 50 (.int .u16 r0)), (.iface 50 (.int .u16 r1)), (.iface 52 (.agg #[.int .i32 s2, .bool true, .int .u8 13])), .nilIface, .nilIface, .nilIface]] w fun e w' => ∃ g cap, e = .returned (.slice (some ⟨g, 0, none⟩) 3 cap) ∧ RowAt w' g [.int .i64 1, .int .i64 r0, .int .i64 0, .int .i64 1, .int .i64 r1, .int .i64 0, .int .i64 4, .int .i64 0, .int .i64 s2] ∧ Below w.heap.size w w' := by
  obtain ⟨i0, hi, hz0, hz1, hz2⟩ := info_parts infoArg
  go_enter Try.func41, Try.ntmps41
  go_wp2
  refine wp_loop_rounds 7 ?_
  rw [rounds_succ]
  go_wp2_with (first | (at_builtin; go_must ((refine wpList_append_own _ rfl _ _ 23 rfl w.heap.size 27 i0 (.agg #[.int .i64 0, .int .i64 0, .int .i64 0]) 3 24 Try.underlying23 hi hz0 hz1 hz2 rfl (by decide) _ 0 [] rfl ?c0 _ 1 1 [.int .i64 1, .int .i64 r0, .int .i64 0] rfl rfl ?c1 ?c2 ?c3 ?c4 ?c5 ?_); (case c0 => exact World.ownsRow_nil _ _ _ _); (case c1 => exact cells3 _ _ _ _ _ _ (by simp)); (case c2 => exact one3 _ _ _); (case c3 => unfold maxLen; omega); (case c4 => omega); (case c5 => simp; omega); intro v1 w1 hown1 hgrow1 _)) | go_in)
  have hb1 : Below w.heap.size w w1 := below_new (v := .slice none 0 0) (n := 0) (xs := []) (by repeat (first |  (with_reducible exact Below.refl _ _) | (with_reducible refine Below.alloc ?_ ?_ _) | (with_reducible refine Below.setCell ?_ ?_ _) | go_size)) (by simp; omega) (World.ownsRow_nil _ _ _ _) hgrow1
  have hs1 := hb1.size
  clear hgrow1
  simp only [Nat.zero_add, List.nil_append] at hown1
  rw [rounds_succ]
  go_wp2_with (first | (at_builtin; go_must ((refine wpList_append_own _ rfl _ _ 23 rfl w.heap.size 27 i0 (.agg #[.int .i64 0, .int .i64 0, .int .i64 0]) 3 24 Try.underlying23 hi hz0 hz1 hz2 rfl (by decide) _ 1 [.int .i64 1, .int .i64 r0, .int .i64 0] rfl ?c0 _ 1 1 [.int .i64 1, .int .i64 r1, .int .i64 0] rfl rfl ?c1 ?c2 ?c3 ?c4 ?c5 ?_); (case c0 => repeat (first | exact hown1 | refine World.ownsRow.alloc ?_ _)); (case c1 => exact cells3 _ _ _ _ _ _ (by simp)); (case c2 => exact one3 _ _ _); (case c3 => unfold maxLen; omega); (case c4 => omega); (case c5 => simp; omega); intro v2 w2 hown2 hgrow2 _)) | go_in)
  have hb2 : Below w.heap.size w w2 := below_new (v := v1) (n := 1) (xs := [.int .i64 1, .int .i64 r0, .int .i64 0]) (by repeat (first | exact hb1 | (with_reducible exact Below.refl _ _) | (with_reducible refine Below.alloc ?_ ?_ _) | (with_reducible refine Below.setCell ?_ ?_ _) | go_size)) (by simp; omega) (by repeat (first | exact hown1 | refine World.ownsRow.alloc ?_ _)) hgrow2
  have hs2 := hb2.size
  clear hgrow2 hown1 hb1 hs1
  simp only [Nat.reduceAdd, List.cons_append, List.nil_append] at hown2
  rw [rounds_succ]
  go_wp2_with (first | (at_builtin; go_must ((refine wpList_append_own _ rfl _ _ 23 rfl w.heap.size 27 i0 (.agg #[.int .i64 0, .int .i64 0, .int .i64 0]) 3 24 Try.underlying23 hi hz0 hz1 hz2 rfl (by decide) _ 2 [.int .i64 1, .int .i64 r0, .int .i64 0, .int .i64 1, .int .i64 r1, .int .i64 0] rfl ?c0 _ 1 1 [.int .i64 4, .int .i64 0, .int .i64 s2] rfl rfl ?c1 ?c2 ?c3 ?c4 ?c5 ?_); (case c0 => repeat (first | exact hown2 | refine World.ownsRow.alloc ?_ _)); (case c1 => exact cells3 _ _ _ _ _ _ (by simp)); (case c2 => exact one3 _ _ _); (case c3 => unfold maxLen; omega); (case c4 => omega); (case c5 => simp; omega); intro v3 w3 hown3 hgrow3 _)) | go_in)
  have hb3 : Below w.heap.size w w3 := below_new (v := v2) (n := 2) (xs := [.int .i64 1, .int .i64 r0, .int .i64 0, .int .i64 1, .int .i64 r1, .int .i64 0]) (by repeat (first | exact hb2 | (with_reducible exact Below.refl _ _) | (with_reducible refine Below.alloc ?_ ?_ _) | (with_reducible refine Below.setCell ?_ ?_ _) | go_size)) (by simp; omega) (by repeat (first | exact hown2 | refine World.ownsRow.alloc ?_ _)) hgrow3
  have hs3 := hb3.size
  clear hgrow3 hown2 hb2 hs2
  simp only [Nat.reduceAdd, List.cons_append, List.nil_append] at hown3
  rw [rounds_succ]
  go_wp2
  rw [rounds_succ]
  go_wp2
  rw [rounds_succ]
  go_wp2
  rw [rounds_succ]
  go_wp2
  go_ret
  obtain ⟨g, cap, hv, hrow⟩ := rowAt_of_owns hown3
  exact ⟨g, cap, congrArg Ending.returned hv, hrow, hb3⟩
set_option maxHeartbeats 1000000 in
theorem listed_rru (r0 r1 u2 : Int) (lo_r0 : 0 ≤ r0) (hi_r0 : r0 < 65536) (lo_r1 : 0 ≤ r1) (hi_r1 : r1 < 65536) (lo_u2 : 0 ≤ u2) (hi_u2 : u2 < 4294967296) (w : World) : Calls Try.prog 41 #[.agg #[(.iface 50 (.int .u16 r0)), (.iface 50 (.int .u16 r1)), (.iface 56 (.agg #[.int .u32 u2, .bool true])), .nilIface, .nilIface, .nilIface]] w fun e w' => ∃ g cap, e = .returned (.slice (some ⟨g, 0, none⟩) 3 cap) ∧ RowAt w' g [.int .i64 1, .int .i64 r0, .int .i64 0, .int .i64 1, .int .i64 r1, .int .i64 0, .int .i64 5, .int .i64 0, .int .i64 u2] ∧ Below w.heap.size w w' := by
  obtain ⟨i0, hi, hz0, hz1, hz2⟩ := info_parts infoArg
  go_enter Try.func41, Try.ntmps41
  go_wp2
  refine wp_loop_rounds 7 ?_
  rw [rounds_succ]
  go_wp2_with (first | (at_builtin; go_must ((refine wpList_append_own _ rfl _ _ 23 rfl w.heap.size 27 i0 (.agg #[.int .i64 0, .int .i64 0, .int .i64 0]) 3 24 Try.underlying23 hi hz0 hz1 hz2 rfl (by decide) _ 0 [] rfl ?c0 _ 1 1 [.int .i64 1, .int .i64 r0, .int .i64 0] rfl rfl ?c1 ?c2 ?c3 ?c4 ?c5 ?_); (case c0 => exact World.ownsRow_nil _ _ _ _); (case c1 => exact cells3 _ _ _ _ _ _ (by simp)); (case c2 => exact one3 _ _ _); (case c3 => unfold maxLen; omega); (case c4 => omega); (case c5 => simp; omega); intro v1 w1 hown1 hgrow1 _)) | go_in)
  have hb1 : Below w.heap.size w w1 := below_new (v := .slice none 0 0) (n := 0) (xs := []) (by repeat (first |  (with_reducible exact Below.refl _ _) | (with_reducible refine Below.alloc ?_ ?_ _) | (with_reducible refine Below.setCell ?_ ?_ _) | go_size)) (by simp; omega) (World.ownsRow_nil _ _ _ _) hgrow1
  have hs1 := hb1.size
  clear hgrow1
  simp only [Nat.zero_add, List.nil_append] at hown1
  rw [rounds_succ]
  go_wp2_with (first | (at_builtin; go_must ((refine wpList_append_own _ rfl _ _ 23 rfl w.heap.size 27 i0 (.agg #[.int .i64 0, .int .i64 0, .int .i64 0]) 3 24 Try.underlying23 hi hz0 hz1 hz2 rfl (by decide) _ 1 [.int .i64 1, .int .i64 r0, .int .i64 0] rfl ?c0 _ 1 1 [.int .i64 1, .int .i64 r1, .int .i64 0] rfl rfl ?c1 ?c2 ?c3 ?c4 ?c5 ?_); (case c0 => repeat (first | exact hown1 | refine World.ownsRow.alloc ?_ _)); (case c1 => exact cells3 _ _ _ _ _ _ (by simp)); (case c2 => exact one3 _ _ _); (case c3 => unfold maxLen; omega); (case c4 => omega); (case c5 => simp; omega); intro v2 w2 hown2 hgrow2 _)) | go_in)
  have hb2 : Below w.heap.size w w2 := below_new (v := v1) (n := 1) (xs := [.int .i64 1, .int .i64 r0, .int .i64 0]) (by repeat (first | exact hb1 | (with_reducible exact Below.refl _ _) | (with_reducible refine Below.alloc ?_ ?_ _) | (with_reducible refine Below.setCell ?_ ?_ _) | go_size)) (by simp; omega) (by repeat (first | exact hown1 | refine World.ownsRow.alloc ?_ _)) hgrow2
  have hs2 := hb2.size
  clear hgrow2 hown1 hb1 hs1
  simp only [Nat.reduceAdd, List.cons_append, List.nil_append] at hown2
  rw [rounds_succ]
  go_wp2_with (first | (at_builtin; go_must ((refine wpList_append_own _ rfl _ _ 23 rfl w.heap.size 27 i0 (.agg #[.int .i64 0, .int .i64 0, .int .i64 0]) 3 24 Try.underlying23 hi hz0 hz1 hz2 rfl (by decide) _ 2 [.int .i64 1, .int .i64 r0, .int .i64 0, .int .i64 1, .int .i64 r1, .int .i64 0] rfl ?c0 _ 1 1 [.int .i64 5, .int .i64 0, .int .i64 u2] rfl rfl ?c1 ?c2 ?c3 ?c4 ?c5 ?_); (case c0 => repeat (first | exact hown2 | refine World.ownsRow.alloc ?_ _)); (case c1 => exact cells3 _ _ _ _ _ _ (by simp)); (case c2 => exact one3 _ _ _); (case c3 => unfold maxLen; omega); (case c4 => omega); (case c5 => simp; omega); intro v3 w3 hown3 hgrow3 _)) | go_in)
  have hb3 : Below w.heap.size w w3 := below_new (v := v2) (n := 2) (xs := [.int .i64 1, .int .i64 r0, .int .i64 0, .int .i64 1, .int .i64 r1, .int .i64 0]) (by repeat (first | exact hb2 | (with_reducible exact Below.refl _ _) | (with_reducible refine Below.alloc ?_ ?_ _) | (with_reducible refine Below.setCell ?_ ?_ _) | go_size)) (by simp; omega) (by repeat (first | exact hown2 | refine World.ownsRow.alloc ?_ _)) hgrow3
  have hs3 := hb3.size
  clear hgrow3 hown2 hb2 hs2
  simp only [Nat.reduceAdd, List.cons_append, List.nil_append] at hown3
  rw [rounds_succ]
  go_wp2
  rw [rounds_succ]
  go_wp2
  rw [rounds_succ]
  go_wp2
  rw [rounds_succ]
  go_wp2
  go_ret
  obtain ⟨g, cap, hv, hrow⟩ := rowAt_of_owns hown3
  exact ⟨g, cap, congrArg Ending.returned hv, hrow, hb3⟩
set_option maxHeartbeats 1000000 in
theorem listed_rs21 (r0 s1 : Int) (lo_r0 : 0 ≤ r0) (hi_r0 : r0 < 65536) (lo_s1 : -2147483648 ≤ s1) (hi_s1 : s1 < 2147483648) (w : World) : Calls Try.prog 41 #[.agg #[(.iface 50 (.int .u16 r0)), (.iface 52 (.agg #[.int .i32 s1, .bool true, .int .u8 21])), .nilIface, .nilIface, .nilIface, .nilIface]] w fun e w' => ∃ g cap, e = .returned (.slice (some ⟨g, 0, none⟩) 2 cap) ∧ RowAt w' g [.int .i64 1, .int .i64 r0, .int .i64 0, .int .i64 4, .int .i64 0, .int .i64 s1] ∧ Below w.heap.size w w' := by
  obtain ⟨i0, hi, hz0, hz1, hz2⟩ := info_parts infoArg
  go_enter Try.func41, Try.ntmps41
  go_wp2
  refine wp_loop_rounds 7 ?_
  rw [rounds_succ]
  go_wp2_with (first | (at_builtin; go_must ((refine wpList_append_own _ rfl _ _ 23 rfl w.heap.size 27 i0 (.agg #[.int .i64 0, .int .i64 0, .int .i64 0]) 3 24 Try.underlying23 hi hz0 hz1 hz2 rfl (by decide) _ 0 [] rfl ?c0 _ 1 1 [.int .i64 1, .int .i64 r0, .int .i64 0] rfl rfl ?c1 ?c2 ?c3 ?c4 ?c5 ?_); (case c0 => exact World.ownsRow_nil _ _ _ _); (case c1 => exact cells3 _ _ _ _ _ _ (by simp)); (case c2 => exact one3 _ _ _); (case c3 => unfold maxLen; omega); (case c4 => omega); (case c5 => simp; omega); intro v1 w1 hown1 hgrow1 _)) | go_in)
  have hb1 : Below w.heap.size w w1 := below_new (v := .slice none 0 0) (n := 0) (xs := []) (by repeat (first |  (with_reducible exact Below.refl _ _) | (with_reducible refine Below.alloc ?_ ?_ _) | (with_reducible refine Below.setCell ?_ ?_ _) | go_size)) (by simp; omega) (World.ownsRow_nil _ _ _ _) hgrow1
  have hs1 := hb1.size
  clear hgrow1
  simp only [Nat.zero_add, List.nil_append] at hown1
  rw [rounds_succ]
  go_wp2_with (first | (at_builtin; go_must ((refine wpList_append_own _ rfl _ _ 23 rfl w.heap.size 27 i0 (.agg #[.int .i64 0, .int .i64 0, .int .i64 0]) 3 24 Try.underlying23 hi hz0 hz1 hz2 rfl (by decide) _ 1 [.int .i64 1, .int .i64 r0, .int .i64 0] rfl ?c0 _ 1 1 [.int .i64 4, .int .i64 0, .int .i64 s1] rfl rfl ?c1 ?c2 ?c3 ?c4 ?c5 ?_); (case c0 => repeat (first | exact hown1 | refine World.ownsRow.alloc ?_ _)); (case c1 => exact cells3 _ _ _ _ _ _ (by simp)); (case c2 => exact one3 _ _ _); (case c3 => unfold maxLen; omega); (case c4 => omega); (case c5 => simp; omega); intro v2 w2 hown2 hgrow2 _)) | go_in)
  have hb2 : Below w.heap.size w w2 := below_new (v := v1) (n := 1) (xs := [.int .i64 1, .int .i64 r0, .int .i64 0]) (by repeat (first | exact hb1 | (with_reducible exact Below.refl _ _) | (with_reducible refine Below.alloc ?_ ?_ _) | (with_reducible refine Below.setCell ?_ ?_ _) | go_size)) (by simp; omega) (by repeat (first | exact hown1 | refine World.ownsRow.alloc ?_ _)) hgrow2
  have hs2 := hb2.size
  clear hgrow2 hown1 hb1 hs1
  simp only [Nat.reduceAdd, List.cons_append, List.nil_append] at hown2
  rw [rounds_succ]
  go_wp2
  rw [rounds_succ]
  go_wp2
  rw [rounds_succ]
  go_wp2
  rw [rounds_succ]
  go_wp2
  rw [rounds_succ]
  go_wp2
  go_ret
  obtain ⟨g, cap, hv, hrow⟩ := rowAt_of_owns hown2
  exact ⟨g, cap, congrArg Ending.returned hv, hrow, hb2⟩
end Go.Proofs.Ytjbbbjnhbdohoaa.Conv
