/-
  'laws.FnOrderText' returns true for every number. No condition. Outside of 1 to 15 the law returns at once; each number of these is walked by the evaluation of the kernel.
-/
import Derived.Test.YtfmpammdncaaiaaRows
import Derived.Test.YtfmpammdncaaiaaQ
import Derived.WalkKit
import Derived.WalkLawsBesides
import Derived.WalkSpells
import Derived.ProofKit
import Derived.OpenShut
import Derived.Handy
import Derived.ChangeAlike
namespace Go.Proofs.Ytfmpammdncaaiaa.fnOrderText
open Go Go.ChangeShapes Go.WideShapes Go.ChangeAt Go.RowKit
set_option linter.unusedVariables false
theorem own : ownKnob Try.prog.godebug = none := by kernel_rfl
theorem mixed : Try.prog.follows .mixedOrders = true := by kernel_rfl
theorem at1 : Q.Gives Try.prog 3 #[.int .i64 1] (.bool true) := by
  have e : Q.run Try.prog 8 4 [] 3 #[.int .i64 1] = some (Value.bool true, []) := by kernel_rfl
  exact Q.gives mixed e trivial
theorem at2 : Q.Gives Try.prog 3 #[.int .i64 2] (.bool true) := by
  have e : Q.run Try.prog 8 4 [] 3 #[.int .i64 2] = some (Value.bool true, []) := by kernel_rfl
  exact Q.gives mixed e trivial
theorem at3 : Q.Gives Try.prog 3 #[.int .i64 3] (.bool true) := by
  have e : Q.run Try.prog 8 4 [] 3 #[.int .i64 3] = some (Value.bool true, []) := by kernel_rfl
  exact Q.gives mixed e trivial
theorem at4 : Q.Gives Try.prog 3 #[.int .i64 4] (.bool true) := by
  have e : Q.run Try.prog 8 4 [] 3 #[.int .i64 4] = some (Value.bool true, []) := by kernel_rfl
  exact Q.gives mixed e trivial
theorem at5 : Q.Gives Try.prog 3 #[.int .i64 5] (.bool true) := by
  have e : Q.run Try.prog 8 4 [] 3 #[.int .i64 5] = some (Value.bool true, []) := by kernel_rfl
  exact Q.gives mixed e trivial
theorem at6 : Q.Gives Try.prog 3 #[.int .i64 6] (.bool true) := by
  have e : Q.run Try.prog 8 4 [] 3 #[.int .i64 6] = some (Value.bool true, []) := by kernel_rfl
  exact Q.gives mixed e trivial
theorem at7 : Q.Gives Try.prog 3 #[.int .i64 7] (.bool true) := by
  have e : Q.run Try.prog 8 4 [] 3 #[.int .i64 7] = some (Value.bool true, []) := by kernel_rfl
  exact Q.gives mixed e trivial
theorem at8 : Q.Gives Try.prog 3 #[.int .i64 8] (.bool true) := by
  have e : Q.run Try.prog 8 4 [] 3 #[.int .i64 8] = some (Value.bool true, []) := by kernel_rfl
  exact Q.gives mixed e trivial
theorem at9 : Q.Gives Try.prog 3 #[.int .i64 9] (.bool true) := by
  have e : Q.run Try.prog 8 4 [] 3 #[.int .i64 9] = some (Value.bool true, []) := by kernel_rfl
  exact Q.gives mixed e trivial
theorem at10 : Q.Gives Try.prog 3 #[.int .i64 10] (.bool true) := by
  have e : Q.run Try.prog 8 4 [] 3 #[.int .i64 10] = some (Value.bool true, []) := by kernel_rfl
  exact Q.gives mixed e trivial
theorem at11 : Q.Gives Try.prog 3 #[.int .i64 11] (.bool true) := by
  have e : Q.run Try.prog 8 4 [] 3 #[.int .i64 11] = some (Value.bool true, []) := by kernel_rfl
  exact Q.gives mixed e trivial
theorem at12 : Q.Gives Try.prog 3 #[.int .i64 12] (.bool true) := by
  have e : Q.run Try.prog 8 4 [] 3 #[.int .i64 12] = some (Value.bool true, []) := by kernel_rfl
  exact Q.gives mixed e trivial
theorem at13 : Q.Gives Try.prog 3 #[.int .i64 13] (.bool true) := by
  have e : Q.run Try.prog 8 4 [] 3 #[.int .i64 13] = some (Value.bool true, []) := by kernel_rfl
  exact Q.gives mixed e trivial
theorem at14 : Q.Gives Try.prog 3 #[.int .i64 14] (.bool true) := by
  have e : Q.run Try.prog 8 4 [] 3 #[.int .i64 14] = some (Value.bool true, []) := by kernel_rfl
  exact Q.gives mixed e trivial
theorem at15 : Q.Gives Try.prog 3 #[.int .i64 15] (.bool true) := by
  have e : Q.run Try.prog 8 4 [] 3 #[.int .i64 15] = some (Value.bool true, []) := by kernel_rfl
  exact Q.gives mixed e trivial
theorem out (a0 : Int) (h : a0 < 1 ∨ a0 > 15) (w : World) : Calls Try.prog 3 #[.int .i64 a0] w fun e w' => e = .returned (.bool true) ∧ Below w.heap.size w w' := by
  by_cases h1 : a0 < 1
  · have d1 : decide (a0 < 1) = true := by simp [h1]
    go_enter Try.func3, Try.ntmps3
    go_wp2
    all_goals go_ret
    all_goals (refine ⟨rfl, ?_⟩)
    all_goals (repeat' (first | (with_reducible exact Below.refl _ _) | (with_reducible refine Below.drew ?_) | go_size))
  · have h2 : 15 < a0 := by omega
    have d1 : decide (a0 < 1) = false := by simp [h1]
    have d2 : decide (15 < a0) = true := by simp [h2]
    go_enter Try.func3, Try.ntmps3
    go_wp2
    all_goals go_ret
    all_goals (refine ⟨rfl, ?_⟩)
    all_goals (repeat' (first | (with_reducible exact Below.refl _ _) | (with_reducible refine Below.drew ?_) | go_size))
theorem given {a0 : Int} (g : Q.Gives Try.prog 3 #[.int .i64 a0] (.bool true)) (w : World) : Calls Try.prog 3 #[.int .i64 a0] w fun e w' => e = .returned (.bool true) ∧ Below w.heap.size w w' :=
  (g w).mono fun e w' ⟨he, m, hw⟩ => ⟨he, hw ▸ ⟨rfl, rfl, rfl, Nat.le_refl _, fun _ _ => rfl⟩⟩
theorem walk (a0 : Int) (w : World) : Calls Try.prog 3 #[.int .i64 a0] w fun e w' => e = .returned (.bool true) ∧ Below w.heap.size w w' := by
  by_cases h : a0 < 1 ∨ a0 > 15
  · exact out a0 h w
  · obtain ⟨n, rfl⟩ := Int.eq_ofNat_of_zero_le (show (0 : Int) ≤ a0 by omega)
    have hn : n < 16 := by omega
    have h1 : 1 ≤ n := by omega
    match n, hn, h1 with
    | 1, _, _ => exact given at1 w
    | 2, _, _ => exact given at2 w
    | 3, _, _ => exact given at3 w
    | 4, _, _ => exact given at4 w
    | 5, _, _ => exact given at5 w
    | 6, _, _ => exact given at6 w
    | 7, _, _ => exact given at7 w
    | 8, _, _ => exact given at8 w
    | 9, _, _ => exact given at9 w
    | 10, _, _ => exact given at10 w
    | 11, _, _ => exact given at11 w
    | 12, _, _ => exact given at12 w
    | 13, _, _ => exact given at13 w
    | 14, _, _ => exact given at14 w
    | 15, _, _ => exact given at15 w
    | k + 16, hn, _ => exact absurd hn (by omega)


set_option maxRecDepth 100000 in
theorem lifted (os : Os) (started : os.Started) (H : Type) (enc : TypeId × Value → H) :
    ReturnsInHanded {} Try.checked os 3 .any (Rows.fnOrderTextSpec.pre6 enc Try.prog Try.f3 Rows.fnOrderTextRow.domain false) (Rows.fnOrderTextSpec.post enc Try.prog Try.f3 false true false false) := by
  refine returnsInHanded_of_change (C := Try.checked) own started (by kernel_rfl) Try.func3
    (ChangeSpec.witness6 (enc := enc) (C := Try.checked) false ⟨#[], #[.int .i64 0], []⟩ 8 (by kernel_rfl) (by kernel_rfl) (by kernel_rfl) (by kernel_rfl)) ?_
  intro W base args ds gs before hval0 hW hcnd _
  have hval : ∀ (j : Nat) t v, Try.f3.params[j]? = some t → args[j]? = some v → Value.okWide Try.prog W .any base t v := hval0
  have hW' := hW
  obtain ⟨p, q, hA0, hV, rfl, hfz, hnd⟩ := hW
  have hA : DataW.TrodAll enc Try.prog W 0 (fun _ => true) true Try.f3.params.toList args.toList ds p := hA0
  rw [Try.params3] at hA hval
  obtain ⟨v0, vs0, d0, ds0, p0, q0, hargs, rfl, rfl, h0, r0⟩ := trodAll_cons hA
  obtain ⟨rfl, rfl, rfl⟩ := trodAll_nil r0
  obtain rfl : args = #[v0] := by cases args; simp_all
  obtain ⟨rfl, rfl⟩ := trodVars_none hV
  obtain ⟨a0, rfl, rfl, rfl, w0⟩ := open_int Try.underlying3 (hval 0 3 v0 rfl rfl) h0
  clear hA0 hval0
  simp only [List.append_nil] at hW'
  refine (walk a0 W).mono fun e W' ⟨he, hg⟩ => ?_
  subst he
  exact ⟨_, rfl, _, _, _, [], [], [], hW', (trodAll_cons_mk (shut_bool Try.underlying4 _) trodAll_mk0), (trodAll_cons_mk (shut_int Try.underlying3 w0) trodAll_mk0), rfl, hg.frame _, fun h => by cases h⟩

theorem over : Rows.fnOrderTextRow.holds Try.pinned (OpenSpec.ofChange Rows.fnOrderTextSpec) :=
  OpenClaim.holds_of_wide 3 Try.f3 rfl rfl rfl rfl rfl rfl rfl ⟨rfl, rfl, rfl, rfl, rfl⟩ rfl rfl rfl rfl rfl (by kernel_rfl) Try.func3 (by kernel_rfl)
    (of_decide_eq_true (by kernel_rfl)) (by unfold Func.isWrapper; first | (rw [if_pos (by decide +kernel)]; kernel_rfl) | (rw [if_neg (by decide +kernel)]; exact ⟨rfl, rfl⟩))
    (fun os started H enc _ => lifted os started H enc)

theorem proved : Rows.FnOrderTextSaid :=
  over
#print axioms proved
end Go.Proofs.Ytfmpammdncaaiaa.fnOrderText
