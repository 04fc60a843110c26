/-
  'laws.FnArgRs1Mem' returns true for every word of 32 bits. No condition.
-/
import Derived.Test.YtofgdpjhnlohoabRows
import Derived.Test.YtofgdpjhnlohoabQ
import Derived.Test.YtofgdpjhnlohoabBits
import Derived.Test.YtofgdpjhnlohoabFacts
import Derived.WalkKit
import Derived.WalkLawsBesides
import Derived.WalkSpells
import Derived.ProofKit
import Derived.OpenShut
import Derived.Handy
namespace Go.Proofs.Ytofgdpjhnlohoab.fnArgRs1Mem
open Go Go.ChangeShapes Go.WideShapes Go.ChangeAt Go.RowKit
set_option linter.unusedVariables false
theorem own : ownKnob Try.prog.godebug = none := by kernel_rfl
theorem mixed : Try.prog.follows .mixedOrders = true := by kernel_rfl
theorem grown_drewN {W w' : World} (h : Grown W w') (n : Nat) : Grown W (w'.drewN n) := h
theorem grown_eq {A B : World} {m : Nat} (h : B = A.drewN m) : Grown A B := by rw [h]; exact grown_drewN (Grown.refl A) m
theorem grown_trans {A B C : World} (h : Grown A B) (h' : Grown B C) : Grown A C :=
  ⟨World.keptBut_trans h.1 h'.1, fun a => (h'.2.1 a).trans (h.2.1 a), Nat.le_trans h.2.2 h'.2.2⟩

def U (n : Nat) : Nat := n / 2 ^ 20 % 2 ^ 12 * 2 ^ 0
theorem U_lt (n : Nat) : U n < 2 ^ 12 := by unfold U; omega
theorem imm (n : Nat) (hn : n < 4294967296) : (Ev.shr (n : Int) 20) = ((U n : Nat) : Int) := by
  have t1 : (Ev.shr (n : Int) 20) = ((n / 2 ^ 20 % 2 ^ 12 * 2 ^ 0 : Nat) : Int) := Ev.S1 n 20 hn (by decide)
  rw [t1]
  rfl
theorem dec (n : Nat) (hn : n < 4294967296) : Q.Gives Try.prog 37 #[.int .u16 16, .int .u32 (n : Int)] (.iface 47 (.agg #[.int .u16 ((n / 2 ^ 15 % 2 ^ 5 : Nat) : Int), .int .i32 (Ev.sgn 12 (U n)), .bool true, .int .u8 12])) := by
  have r : (IntKind.u16.wrap (0 + (IntKind.u16.wrap (Ev.an (Ev.shr (n : Int) 15) 31)))) = ((0 + n / 2 ^ 15 % 2 ^ 5 : Nat) : Int) := Ev.reg n 15 5 31 0 (by decide) (by decide) hn (by decide)
  rw [Nat.zero_add] at r
  have t := Ev.dec_test (U n) 12 (by decide) (U_lt n)
  by_cases hs : 2 ^ (12 - 1) ≤ U n
  · have e : Q.run Try.prog 4 3 [(15, true)] 37 #[.int .u16 16, .int .u32 (n : Int)] = some (Value.iface 47 (.agg #[.int .u16 (IntKind.u16.wrap (0 + (IntKind.u16.wrap (Ev.an (Ev.shr (n : Int) 15) 31)))), .int .i32 (IntKind.i32.wrap (Ev.o (Ev.shr (n : Int) 20) 4294963200)), .bool true, .int .u8 12]), [((Ev.shr (Ev.shr (n : Int) 20) 11 == 1), true)]) := by kernel_rfl
    rw [r, imm n hn] at e
    rw [show (IntKind.i32.wrap (Ev.o ((U n : Nat) : Int) 4294963200)) = Ev.sgn 12 (U n) from Ev.dec_neg (U n) 12 4294963200 (by decide) (by decide) (U_lt n) (by decide) hs] at e
    exact Q.gives mixed e ⟨t.trans (decide_eq_true hs), trivial⟩
  · have e : Q.run Try.prog 4 3 [(15, false)] 37 #[.int .u16 16, .int .u32 (n : Int)] = some (Value.iface 47 (.agg #[.int .u16 (IntKind.u16.wrap (0 + (IntKind.u16.wrap (Ev.an (Ev.shr (n : Int) 15) 31)))), .int .i32 (IntKind.i32.wrap (Ev.shr (n : Int) 20)), .bool true, .int .u8 12]), [((Ev.shr (Ev.shr (n : Int) 20) 11 == 1), false)]) := by kernel_rfl
    rw [r, imm n hn] at e
    rw [show (IntKind.i32.wrap ((U n : Nat) : Int)) = Ev.sgn 12 (U n) from Ev.dec_pos (U n) 12 (by decide) (by decide) (U_lt n) hs] at e
    exact Q.gives mixed e ⟨t.trans (decide_eq_false hs), trivial⟩
theorem spec (n : Nat) (hn : n < 4294967296) : Q.Gives Try.prog 18 #[.int .u32 (n : Int), .int .i64 19, .int .i64 15] (.int .i64 ((n / 2 ^ 15 % 2 ^ 5 : Nat) : Int)) := by
  have e : Q.run Try.prog 4 3 [] 18 #[.int .u32 (n : Int), .int .i64 19, .int .i64 15] = some (.int .i64 (Ev.fd (n : Int) 19 15), []) := by kernel_rfl
  have p : Ev.fd (n : Int) 19 15 = ((n / 2 ^ 15 % 2 ^ 5 : Nat) : Int) := Ev.fd_cast n 19 15 hn (by decide) (by decide)
  rw [p] at e
  exact Q.gives mixed e trivial
theorem immi (n : Nat) (hn : n < 4294967296) : Q.Gives Try.prog 30 #[.int .u32 (n : Int)] (.int .i64 (Ev.sgn 12 (U n))) := by
  have s : (Ev.fd (n : Int) 31 20) = ((U n : Nat) : Int) := by
    have p1 : Ev.fd (n : Int) 31 20 = ((n / 2 ^ 20 % 2 ^ 12 : Nat) : Int) := Ev.fd_cast n 31 20 hn (by decide) (by decide)
    rw [p1]
    exact congrArg Int.ofNat (by unfold U; omega)
  have t := Ev.spec_test (U n) 12 (by decide) (by decide)
  by_cases hs : 2 ^ (12 - 1) ≤ U n
  · have e : Q.run Try.prog 4 5 [(0, true)] 30 #[.int .u32 (n : Int)] = some (Value.int .i64 (IntKind.i64.wrap ((Ev.fd (n : Int) 31 20) - IntKind.i64.wrap (1 * 2 ^ Int.toNat 12))), [(decide ((Ev.fd (n : Int) 31 20) ≥ IntKind.i64.wrap (1 * 2 ^ (IntKind.i64.wrap (12 - 1)).toNat)), true)]) := by kernel_rfl
    rw [s] at e
    have z : (IntKind.i64.wrap (((U n : Nat) : Int) - IntKind.i64.wrap (1 * 2 ^ Int.toNat 12))) = Ev.sgn 12 (U n) := Ev.spec_neg (U n) 12 (by decide) (U_lt n) hs
    exact (Q.gives mixed e ⟨t.trans (decide_eq_true hs), trivial⟩).eq (congrArg (Value.int .i64) z)
  · have e : Q.run Try.prog 4 5 [(0, false)] 30 #[.int .u32 (n : Int)] = some (Value.int .i64 (Ev.fd (n : Int) 31 20), [(decide ((Ev.fd (n : Int) 31 20) ≥ IntKind.i64.wrap (1 * 2 ^ (IntKind.i64.wrap (12 - 1)).toNat)), false)]) := by kernel_rfl
    rw [s] at e
    have z : ((U n : Nat) : Int) = Ev.sgn 12 (U n) := Ev.spec_pos (U n) 12 hs
    exact (Q.gives mixed e ⟨t.trans (decide_eq_false hs), trivial⟩).eq (congrArg (Value.int .i64) z)
set_option maxRecDepth 100000 in
set_option maxHeartbeats 400000 in
theorem walk_n (n : Nat) (hn : n < 4294967296) (w : World) : Calls Try.prog 10 #[.int .u32 (n : Int)] w fun e w' => e = .returned (.bool true) ∧ Grown w w' := by
  have b1 : (0 : Int) ≤ ((n / 2 ^ 15 % 2 ^ 5 : Nat) : Int) := by omega
  have b2 : ((n / 2 ^ 15 % 2 ^ 5 : Nat) : Int) < 32 := by omega
  obtain ⟨b3, b4⟩ := Ev.sgn_lo (U n) 12 (by decide) (by decide) (U_lt n)
  have d : ∀ w, Calls _ _ _ w _ := dec n hn
  have s : ∀ w, Calls _ _ _ w _ := spec n hn
  have g : ∀ w, Calls _ _ _ w _ := immi n hn
  generalize (Ev.sgn 12 (U n)) = y at *
  generalize ((n / 2 ^ 15 % 2 ^ 5 : Nat) : Int) = q at *
  go_enter Try.func10, Try.ntmps10
  go_wp2_with (first | (go_at_call 37; ((with_reducible refine (d _).mono ?_); rintro e w' ⟨rfl, m, rfl⟩)) | (go_at_call 18; ((with_reducible refine (s _).mono ?_); rintro e w1 ⟨rfl, m, hw1⟩; have g1 := grown_eq hw1; have s1 := g1.2.2; (try simp at s1); clear hw1 m)) | (go_at_call 30; ((with_reducible refine (g _).mono ?_); rintro e w1 ⟨rfl, m, hw1⟩; have g1 := grown_eq hw1; have s1 := g1.2.2; (try simp at s1); clear hw1 m)) | go_in)
  all_goals go_ret
  all_goals (refine ⟨rfl, ?_⟩)
  all_goals (repeat' (first | (with_reducible exact Grown.refl _) | (with_reducible refine Grown.alloc ?_ _ _) | (with_reducible refine grown_drewN ?_ _) | (with_reducible refine Grown.drew ?_) | (with_reducible refine Grown.setCell ?_ ?_ _) | (with_reducible refine grown_trans ?_ (by assumption)) | go_size | (simp; omega)))
theorem walk (a0 : Int) (w0 : (Lit.int .u32 a0).wf = true) (w : World) :
    Calls Try.prog 10 #[.int .u32 a0] w fun e w' => e = .returned (.bool true) ∧ Grown w w' := by
  obtain ⟨b0, b1⟩ := bounds_u32 w0
  obtain ⟨n, rfl⟩ := Int.eq_ofNat_of_zero_le b0
  have hn : n < 4294967296 := by omega
  exact walk_n n hn w

set_option maxRecDepth 100000 in
theorem lifted (os : Os) (started : os.Started) (H : Type) (enc : TypeId × Value → H) :
    ReturnsInHanded {} Try.checked os 10 .any (Rows.fnArgRs1MemSpec.pre6 enc Try.prog Try.f10 Rows.fnArgRs1MemRow.domain false) (Rows.fnArgRs1MemSpec.post enc Try.prog Try.f10 false true false false) := by
  refine returnsInHanded_of_change (C := Try.checked) own started (by kernel_rfl) Try.func10
    (ChangeSpec.witness6 (enc := enc) (C := Try.checked) false ⟨#[], #[.int .u32 0], []⟩ 8 (by kernel_rfl) (by kernel_rfl) (by kernel_rfl) (by kernel_rfl)) ?_
  intro W base args ds gs before hval0 hW hcnd _
  have hval : ∀ (j : Nat) t v, Try.f10.params[j]? = some t → args[j]? = some v → Value.okWide Try.prog W .any base t v := hval0
  have hW' := hW
  obtain ⟨p, q, hA0, hV, rfl, hfz, hnd⟩ := hW
  have hA : DataW.TrodAll enc Try.prog W 0 (fun _ => true) true Try.f10.params.toList args.toList ds p := hA0
  rw [Try.params10] at hA hval
  obtain ⟨v0, vs0, d0, ds0, p0, q0, hargs, rfl, rfl, h0, r0⟩ := trodAll_cons hA
  obtain ⟨rfl, rfl, rfl⟩ := trodAll_nil r0
  obtain rfl : args = #[v0] := by cases args; simp_all
  obtain ⟨rfl, rfl⟩ := trodVars_none hV
  obtain ⟨a0, rfl, rfl, rfl, w0⟩ := open_int Try.underlying22 (hval 0 22 v0 rfl rfl) h0
  clear hA0 hval0
  simp only [List.append_nil] at hW'
  refine (walk a0 w0 W).mono fun e W' ⟨he, hg⟩ => ?_
  subst he
  exact ⟨_, rfl, post_of_same (pa := []) (pv := []) hW' (fun _ _ _ => (trodAll_cons_mk (shut_bool Try.underlying4 _) trodAll_mk0)) (fun sp _ => (trodAll_cons_mk (shut_int Try.underlying22 w0) trodAll_mk0)) (fun _ _ => rfl) rfl
    (hg.frame _) hg.2.1 (ok_one (by kernel_rfl) rfl (okWide_bool_mk Try.underlying4 _))⟩

theorem over : Rows.fnArgRs1MemRow.holds Try.pinned (OpenSpec.ofChange Rows.fnArgRs1MemSpec) :=
  OpenClaim.holds_of_wide 10 Try.f10 rfl rfl rfl rfl rfl rfl rfl ⟨rfl, rfl, rfl, rfl, rfl⟩ rfl rfl rfl rfl rfl (by kernel_rfl) Try.func10 (by kernel_rfl)
    (of_decide_eq_true (by kernel_rfl)) (by unfold Func.isWrapper; first | (rw [if_pos (by decide +kernel)]; kernel_rfl) | (rw [if_neg (by decide +kernel)]; exact ⟨rfl, rfl⟩))
    (fun os started H enc _ => lifted os started H enc)

theorem proved : Rows.FnArgRs1MemSaid :=
  over
#print axioms proved
end Go.Proofs.Ytofgdpjhnlohoab.fnArgRs1Mem
