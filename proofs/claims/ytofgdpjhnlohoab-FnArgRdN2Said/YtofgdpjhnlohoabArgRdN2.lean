/-
  'laws.FnArgRdN2' returns true for every word of 32 bits. No condition.
-/
import Derived.Test.YtofgdpjhnlohoabRows
import Derived.Test.YtofgdpjhnlohoabQ
import Derived.Test.YtofgdpjhnlohoabBits
import Derived.Test.YtofgdpjhnlohoabFacts
import Derived.WalkKit
import Derived.WalkLawsBesides
import Derived.WalkSpells
import Derived.ProofKit
import Derived.OpenShut
import Derived.Handy
namespace Go.Proofs.Ytofgdpjhnlohoab.fnArgRdN2
open Go Go.ChangeShapes Go.WideShapes Go.ChangeAt Go.RowKit
set_option linter.unusedVariables false
theorem own : ownKnob Try.prog.godebug = none := by kernel_rfl
theorem mixed : Try.prog.follows .mixedOrders = true := by kernel_rfl
theorem grown_drewN {W w' : World} (h : Grown W w') (n : Nat) : Grown W (w'.drewN n) := h
theorem grown_eq {A B : World} {m : Nat} (h : B = A.drewN m) : Grown A B := by rw [h]; exact grown_drewN (Grown.refl A) m
theorem grown_trans {A B C : World} (h : Grown A B) (h' : Grown B C) : Grown A C :=
  ⟨World.keptBut_trans h.1 h'.1, fun a => (h'.2.1 a).trans (h.2.1 a), Nat.le_trans h.2.2 h'.2.2⟩

set_option maxRecDepth 100000 in
set_option maxHeartbeats 4000000 in
theorem dec_all (n : Nat) (hn : n < 4294967296) (w : World) : Calls Try.prog 37 #[.int .u16 45, .int .u32 (n : Int)] w fun e w' => ((((n / 2 ^ 7 % 2 ^ 5 : Nat) : Int) = 0 ∨ ((n / 2 ^ 7 % 2 ^ 5 : Nat) : Int) = 2) ∧ e = .returned .nilIface ∨ (¬ (((n / 2 ^ 7 % 2 ^ 5 : Nat) : Int) = 0 ∨ ((n / 2 ^ 7 % 2 ^ 5 : Nat) : Int) = 2)) ∧ e = .returned (.iface 40 (.int .u16 (((n / 2 ^ 7 % 2 ^ 5 : Nat) : Int))))) ∧ ∃ m, w' = w.drewN m := by
  have r : (IntKind.u16.wrap (IntKind.u16.wrap (bits BinOp.and IntKind.u32 ((n : Int) / 128) 31))) = ((n / 2 ^ 7 % 2 ^ 5 : Nat) : Int) := by
    have h : IntKind.u16.wrap ((0 : Int) + IntKind.u16.wrap (Ev.an (Ev.shr (n : Int) 7) 31)) = ((0 + n / 2 ^ 7 % 2 ^ 5 : Nat) : Int) := Ev.reg n 7 5 31 0 (by decide) (by decide) hn (by decide)
    rw [Nat.zero_add, Int.zero_add] at h
    have hs : (n : Int) / 128 = Ev.shr (n : Int) 7 := by rw [Ev.shr_cast]; omega
    rw [hs]
    exact h
  go_enter Try.func37, Try.ntmps37
  go_wp2
  all_goals go_ret
  all_goals (simp only [r, beq_iff_eq, beq_eq_false_iff_ne] at *)
  all_goals (first | exact ⟨.inl ⟨by omega, rfl⟩, 0, rfl⟩ | exact ⟨.inr ⟨by omega, rfl⟩, 0, rfl⟩)
theorem dec (n : Nat) (hn : n < 4294967296) (hz : ¬ n / 2 ^ 7 % 2 ^ 5 = 0) (hz2 : ¬ n / 2 ^ 7 % 2 ^ 5 = 2) : Q.Gives Try.prog 37 #[.int .u16 45, .int .u32 (n : Int)] (.iface 40 (.int .u16 (((n / 2 ^ 7 % 2 ^ 5 : Nat) : Int)))) :=
  fun w => (dec_all n hn w).mono fun e w' ⟨h, hm⟩ => ⟨by
    rcases h with ⟨h, _⟩ | ⟨_, h⟩
    · exact absurd h (by omega)
    · exact h, hm⟩
theorem decz (n : Nat) (hn : n < 4294967296) (hz : n / 2 ^ 7 % 2 ^ 5 = 0) : Q.Gives Try.prog 37 #[.int .u16 45, .int .u32 (n : Int)] .nilIface :=
  fun w => (dec_all n hn w).mono fun e w' ⟨h, hm⟩ => ⟨by
    rcases h with ⟨_, h⟩ | ⟨h, _⟩
    · exact h
    · exact absurd h (by omega), hm⟩
theorem decw (n : Nat) (hn : n < 4294967296) (hz : n / 2 ^ 7 % 2 ^ 5 = 2) : Q.Gives Try.prog 37 #[.int .u16 45, .int .u32 (n : Int)] .nilIface :=
  fun w => (dec_all n hn w).mono fun e w' ⟨h, hm⟩ => ⟨by
    rcases h with ⟨_, h⟩ | ⟨h, _⟩
    · exact h
    · exact absurd h (by omega), hm⟩
theorem spec (n : Nat) (hn : n < 4294967296) : Q.Gives Try.prog 18 #[.int .u32 (n : Int), .int .i64 11, .int .i64 7] (.int .i64 ((n / 2 ^ 7 % 2 ^ 5 : Nat) : Int)) := by
  have e : Q.run Try.prog 4 3 [] 18 #[.int .u32 (n : Int), .int .i64 11, .int .i64 7] = some (.int .i64 (Ev.fd (n : Int) 11 7), []) := by kernel_rfl
  have p : Ev.fd (n : Int) 11 7 = ((n / 2 ^ 7 % 2 ^ 5 : Nat) : Int) := Ev.fd_cast n 11 7 hn (by decide) (by decide)
  rw [p] at e
  exact Q.gives mixed e trivial
set_option maxRecDepth 100000 in
set_option maxHeartbeats 400000 in
theorem walk_nz (n : Nat) (hn : n < 4294967296) (hz : ¬ n / 2 ^ 7 % 2 ^ 5 = 0) (hz2 : ¬ n / 2 ^ 7 % 2 ^ 5 = 2) (w : World) : Calls Try.prog 8 #[.int .u32 (n : Int)] w fun e w' => e = .returned (.bool true) ∧ Grown w w' := by
  have b1 : (0 : Int) ≤ ((n / 2 ^ 7 % 2 ^ 5 : Nat) : Int) := by omega
  have b2 : ((n / 2 ^ 7 % 2 ^ 5 : Nat) : Int) < 32 := by omega
  have z : (((n / 2 ^ 7 % 2 ^ 5 : Nat) : Int) == 0) = false := by rw [beq_eq_false_iff_ne]; omega
  have z2 : (((n / 2 ^ 7 % 2 ^ 5 : Nat) : Int) == 2) = false := by rw [beq_eq_false_iff_ne]; omega
  have d : ∀ w, Calls _ _ _ w _ := dec n hn hz hz2
  have s : ∀ w, Calls _ _ _ w _ := spec n hn
  clear hz hz2
  generalize ((n / 2 ^ 7 % 2 ^ 5 : Nat) : Int) = q at *
  go_enter Try.func8, Try.ntmps8
  go_wp2_with (first | (go_at_call 37; ((with_reducible refine (d _).mono ?_); rintro e w' ⟨rfl, m, rfl⟩)) | (go_at_call 18; ((with_reducible refine (s _).mono ?_); rintro e w1 ⟨rfl, m, hw1⟩; have g1 := grown_eq hw1; have s1 := g1.2.2; (try simp at s1); clear hw1 m)) | go_in)
  all_goals go_ret
  all_goals (refine ⟨rfl, ?_⟩)
  all_goals (repeat' (first | (with_reducible exact Grown.refl _) | (with_reducible refine Grown.alloc ?_ _ _) | (with_reducible refine grown_drewN ?_ _) | (with_reducible refine Grown.drew ?_) | (with_reducible refine Grown.setCell ?_ ?_ _) | (with_reducible refine grown_trans ?_ (by assumption)) | go_size | (simp; omega)))
set_option maxRecDepth 100000 in
set_option maxHeartbeats 400000 in
theorem walk_z (n : Nat) (hn : n < 4294967296) (hz : n / 2 ^ 7 % 2 ^ 5 = 0) (w : World) : Calls Try.prog 8 #[.int .u32 (n : Int)] w fun e w' => e = .returned (.bool true) ∧ Grown w w' := by
  have d : ∀ w, Calls _ _ _ w _ := decz n hn hz
  have s0 := spec n hn
  rw [hz] at s0
  have s : ∀ w, Calls _ _ _ w _ := s0
  clear hz s0
  go_enter Try.func8, Try.ntmps8
  go_wp2_with (first | (go_at_call 37; ((with_reducible refine (d _).mono ?_); rintro e w' ⟨rfl, m, rfl⟩)) | (go_at_call 18; ((with_reducible refine (s _).mono ?_); rintro e w1 ⟨rfl, m, hw1⟩; have g1 := grown_eq hw1; have s1 := g1.2.2; (try simp at s1); clear hw1 m)) | go_in)
  all_goals go_ret
  all_goals (refine ⟨rfl, ?_⟩)
  all_goals (repeat' (first | (with_reducible exact Grown.refl _) | (with_reducible refine Grown.alloc ?_ _ _) | (with_reducible refine grown_drewN ?_ _) | (with_reducible refine Grown.drew ?_) | (with_reducible refine Grown.setCell ?_ ?_ _) | (with_reducible refine grown_trans ?_ (by assumption)) | go_size | (simp; omega)))
set_option maxRecDepth 100000 in
set_option maxHeartbeats 400000 in
theorem walk_w (n : Nat) (hn : n < 4294967296) (hz : n / 2 ^ 7 % 2 ^ 5 = 2) (w : World) : Calls Try.prog 8 #[.int .u32 (n : Int)] w fun e w' => e = .returned (.bool true) ∧ Grown w w' := by
  have d : ∀ w, Calls _ _ _ w _ := decw n hn hz
  have s0 := spec n hn
  rw [hz] at s0
  have s : ∀ w, Calls _ _ _ w _ := s0
  clear hz s0
  go_enter Try.func8, Try.ntmps8
  go_wp2_with (first | (go_at_call 37; ((with_reducible refine (d _).mono ?_); rintro e w' ⟨rfl, m, rfl⟩)) | (go_at_call 18; ((with_reducible refine (s _).mono ?_); rintro e w1 ⟨rfl, m, hw1⟩; have g1 := grown_eq hw1; have s1 := g1.2.2; (try simp at s1); clear hw1 m)) | go_in)
  all_goals go_ret
  all_goals (refine ⟨rfl, ?_⟩)
  all_goals (repeat' (first | (with_reducible exact Grown.refl _) | (with_reducible refine Grown.alloc ?_ _ _) | (with_reducible refine grown_drewN ?_ _) | (with_reducible refine Grown.drew ?_) | (with_reducible refine Grown.setCell ?_ ?_ _) | (with_reducible refine grown_trans ?_ (by assumption)) | go_size | (simp; omega)))
theorem walk (a0 : Int) (w0 : (Lit.int .u32 a0).wf = true) (w : World) :
    Calls Try.prog 8 #[.int .u32 a0] w fun e w' => e = .returned (.bool true) ∧ Grown w w' := by
  obtain ⟨b0, b1⟩ := bounds_u32 w0
  obtain ⟨n, rfl⟩ := Int.eq_ofNat_of_zero_le b0
  have hn : n < 4294967296 := by omega
  by_cases hz : n / 2 ^ 7 % 2 ^ 5 = 0
  · exact walk_z n hn hz w
  · by_cases hz2 : n / 2 ^ 7 % 2 ^ 5 = 2
    · exact walk_w n hn hz2 w
    · exact walk_nz n hn hz hz2 w

set_option maxRecDepth 100000 in
theorem lifted (os : Os) (started : os.Started) (H : Type) (enc : TypeId × Value → H) :
    ReturnsInHanded {} Try.checked os 8 .any (Rows.fnArgRdN2Spec.pre6 enc Try.prog Try.f8 Rows.fnArgRdN2Row.domain false) (Rows.fnArgRdN2Spec.post enc Try.prog Try.f8 false true false false) := by
  refine returnsInHanded_of_change (C := Try.checked) own started (by kernel_rfl) Try.func8
    (ChangeSpec.witness6 (enc := enc) (C := Try.checked) false ⟨#[], #[.int .u32 0], []⟩ 8 (by kernel_rfl) (by kernel_rfl) (by kernel_rfl) (by kernel_rfl)) ?_
  intro W base args ds gs before hval0 hW hcnd _
  have hval : ∀ (j : Nat) t v, Try.f8.params[j]? = some t → args[j]? = some v → Value.okWide Try.prog W .any base t v := hval0
  have hW' := hW
  obtain ⟨p, q, hA0, hV, rfl, hfz, hnd⟩ := hW
  have hA : DataW.TrodAll enc Try.prog W 0 (fun _ => true) true Try.f8.params.toList args.toList ds p := hA0
  rw [Try.params8] at hA hval
  obtain ⟨v0, vs0, d0, ds0, p0, q0, hargs, rfl, rfl, h0, r0⟩ := trodAll_cons hA
  obtain ⟨rfl, rfl, rfl⟩ := trodAll_nil r0
  obtain rfl : args = #[v0] := by cases args; simp_all
  obtain ⟨rfl, rfl⟩ := trodVars_none hV
  obtain ⟨a0, rfl, rfl, rfl, w0⟩ := open_int Try.underlying22 (hval 0 22 v0 rfl rfl) h0
  clear hA0 hval0
  simp only [List.append_nil] at hW'
  refine (walk a0 w0 W).mono fun e W' ⟨he, hg⟩ => ?_
  subst he
  exact ⟨_, rfl, post_of_same (pa := []) (pv := []) hW' (fun _ _ _ => (trodAll_cons_mk (shut_bool Try.underlying4 _) trodAll_mk0)) (fun sp _ => (trodAll_cons_mk (shut_int Try.underlying22 w0) trodAll_mk0)) (fun _ _ => rfl) rfl
    (hg.frame _) hg.2.1 (ok_one (by kernel_rfl) rfl (okWide_bool_mk Try.underlying4 _))⟩

theorem over : Rows.fnArgRdN2Row.holds Try.pinned (OpenSpec.ofChange Rows.fnArgRdN2Spec) :=
  OpenClaim.holds_of_wide 8 Try.f8 rfl rfl rfl rfl rfl rfl rfl ⟨rfl, rfl, rfl, rfl, rfl⟩ rfl rfl rfl rfl rfl (by kernel_rfl) Try.func8 (by kernel_rfl)
    (of_decide_eq_true (by kernel_rfl)) (by unfold Func.isWrapper; first | (rw [if_pos (by decide +kernel)]; kernel_rfl) | (rw [if_neg (by decide +kernel)]; exact ⟨rfl, rfl⟩))
    (fun os started H enc _ => lifted os started H enc)

theorem proved : Rows.FnArgRdN2Said :=
  over
#print axioms proved
end Go.Proofs.Ytofgdpjhnlohoab.fnArgRdN2
