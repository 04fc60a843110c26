/-
  'laws.FnUimmText' returns true for every number, where the library's tables read as their initialisers lay them; the tied card. No condition. strconv.FormatInt by its contract off the shelf.
-/
import Derived.Test.YtfmpammdncaaiaaDoorCards
import Derived.Test.YtfmpammdncaaiaaDoorTie
import Derived.Test.YtfmpammdncaaiaaDoorShelf
import Derived.WalkKit
import Derived.WalkLawsBesides
import Derived.WalkSpells
import Derived.ProofKit
import Derived.OpenShut
import Derived.Handy
import Derived.RegionTactic
import Derived.ChangeAlike
import Derived.LaidSub
import Derived.Deep.DeepHandedRow
import Derived.Deep.DeepWitnessRowRef
import Derived.LaidMore
import Derived.Deep.DeepMust
import Derived.Lib.LaidTab
import Derived.Lib.ItoaLen
namespace Go.Proofs.YtfmpammdncaaiaaDoor.fnUimmText
open Go Go.ChangeShapes Go.WideShapes Go.ChangeAt Go.RowKit
set_option linter.unusedVariables false
theorem own : ownKnob Tryd.prog.godebug = none := by kernel_rfl
theorem chain {W A B : World} (h : Below W.heap.size W A) (h2 : Below A.heap.size A B) : Below W.heap.size W B :=
  h.trans ⟨h2.os, h2.tape, h2.output, h2.size, fun k hk => h2.block k (Nat.lt_of_lt_of_le hk h.size)⟩
theorem below_grow' (w : World) (k : Nat) (os : Array Obj) : Below w.heap.size w (Go.Sort.grow (w.drewN k) os) := by
  refine ⟨rfl, rfl, rfl, ?_, fun j hj => ?_⟩
  · show w.heap.size ≤ (w.heap ++ os).size
    rw [Array.size_append]; omega
  · show (w.heap ++ os)[j]? = w.heap[j]?
    rw [Array.getElem?_append_left hj]
abbrev Pow (w : World) : Prop := Lib.TabIs Tryd.prog w "internal/strconv.uint64pow10" .u64 Lib.pow10Tab
theorem g_pow : ∃ g, Tryd.prog.globalNamed "internal/strconv.uint64pow10" = some g := ⟨4, by kernel_rfl⟩
theorem Pow.keep {w w' : World} (h : Pow w) (hb : Below w.heap.size w w') : Pow w' := by
  unfold Pow Lib.TabIs at h ⊢
  obtain ⟨g, h1⟩ := g_pow
  unfold World.var? at h ⊢
  rw [h1] at h ⊢
  simp only [Option.bind_some] at h ⊢
  have hg : g < w.heap.size := by
    cases hh : w.heap[g]? with
    | none => rw [hh] at h; cases h
    | some o => exact (Array.getElem?_eq_some_iff.1 hh).1
  rw [hb.block g hg]; exact h
theorem len_le (n : Nat) (h : n < 4294967296) : (⟨(Lib.decDigits n).toArray⟩ : ByteArray).size ≤ 21 := by
  have := Lib.itoa_length_le (n : Int) (by omega) (by omega)
  rw [Lib.itoa_nonneg] at this
  simpa [ByteArray.size] using this
theorem ext : ∀ n, n < 10 → (⟨#[48, 49, 50, 51, 52, 53, 54, 55, 56, 57]⟩ : ByteArray).extract n (n + 1) = ⟨[UInt8.ofNat (48 + n)].toArray⟩ := by decide +kernel
abbrev D (n : Nat) : ByteArray := ⟨(Lib.decDigits n).toArray⟩
theorem D_big {n : Nat} (h : ¬ n < 10) : D (n / 10) ++ D (n % 10) = D n := by
  unfold D
  rw [ByteArray.mk_append_mk, Lib.decDigits_one (i := n % 10) (by omega)]
  conv => rhs; rw [Lib.decDigits, dif_neg h]
set_option maxRecDepth 100000 in
set_option maxHeartbeats 4000000 in
theorem digits (n : Nat) : n < 4294967296 → ∀ w, Calls Tryd.prog 8 #[.int .i64 (n : Int)] w fun e w' => e = .returned (.string (D n)) ∧ Below w.heap.size w w' := by
  induction n using Nat.strongRecOn with
  | _ n ih =>
    intro hn w
    by_cases h : n < 10
    · have q : ((n : Int) < 10) := by omega
      go_enter Tryd.func8, Tryd.ntmps8
      go_wp2_with fail
      go_ret
      refine ⟨?_, Below.refl _ _⟩
      show Ending.returned (Value.string _) = _
      rw [ext n h]
      unfold D
      rw [Lib.decDigits_one h]
    · have q : ¬ ((n : Int) < 10) := by omega
      have dm := ih (n / 10) (by omega) (by omega)
      have dr := ih (n % 10) (by omega) (by omega)
      have z1 := len_le (n / 10) (by omega)
      have z2 := len_le (n % 10) (by omega)
      have big := D_big h
      have e1 : RowKit.wrap64 ((n : Int) / 10) = ((n / 10 : Nat) : Int) := by unfold RowKit.wrap64; omega
      have e3 : (n : Int) / 10 = ((n / 10 : Nat) : Int) := by omega
      have e2 : (n : Int) % 10 = ((n % 10 : Nat) : Int) := by omega
      clear ih
      generalize D n = S at *
      generalize hm : n / 10 = m at *
      generalize hr : n % 10 = r at *
      change (D m).size ≤ 21 at z1
      change (D r).size ≤ 21 at z2
      generalize D m = S1 at *
      generalize D r = S2 at *
      have a1 : ¬ 9223372036854775807 < S1.size + S2.size := by omega
      have a2 : S1.size + S2.size ≤ 9223372036854775807 := by omega
      go_enter Tryd.func8, Tryd.ntmps8
      go_wp2_with (first | (go_at_call 8; (with_reducible refine (dm _).mono ?_); rintro e w1 ⟨rfl, hb1⟩) | (go_at_call 8; (with_reducible refine (dr _).mono ?_); rintro e w2 ⟨rfl, hb2⟩))
      all_goals go_ret
      all_goals exact ⟨rfl, chain hb1 hb2⟩
set_option maxRecDepth 100000 in
set_option maxHeartbeats 4000000 in
theorem uimm (n : Nat) (hn : n < 4294967296) (w : World) (h : Pow w) : Calls Tryd.prog 7 #[.int .i64 (n : Int), .bool true] w fun e w' => e = .returned (.string (D n)) ∧ Below w.heap.size w w' := by
  have e1 : IntKind.u32.wrap (n : Int) = (n : Int) := by simp only [IntKind.wrap_u32]; omega
  have d : ∀ w' : World, Pow w' → Calls Tryd.prog 11 #[.int .i64 (n : Int), .int .i64 10] w' fun e w2 => e = .returned (.string (D n)) ∧ Below w'.heap.size w' w2 := fun w' h' => (Tryd.strconv_FormatInt_10 (n : Int) (by omega) (by omega) w' h').mono fun e w2 ⟨he, k, os, hw⟩ => ⟨by rw [he, Lib.itoa_nonneg], hw ▸ below_grow' w' k os⟩
  generalize D n = S at *
  go_enter Tryd.func7, Tryd.ntmps7
  go_wp2_with (first | (go_at_call 11; (with_reducible refine (d _ (h.keep (by repeat' (first | (with_reducible exact Below.refl _ _) | (with_reducible refine Below.alloc ?_ ?_ _) | (with_reducible refine Below.drew ?_) | (with_reducible refine Below.setCell ?_ ?_ _) | go_size)))).mono ?_); rintro e w2 ⟨rfl, hb2⟩) | go_in)
  all_goals go_ret
  all_goals exact ⟨rfl, chain (by repeat' (first | (with_reducible exact Below.refl _ _) | (with_reducible refine Below.alloc ?_ ?_ _) | (with_reducible refine Below.drew ?_) | (with_reducible refine Below.setCell ?_ ?_ _) | go_size)) hb2⟩
set_option maxRecDepth 100000 in
set_option maxHeartbeats 4000000 in
theorem walk_in (n : Nat) (hn : n < 4294967296) (w : World) (h : Pow w) : Calls Tryd.prog 4 #[.int .i64 (n : Int)] w fun e w' => e = .returned (.bool true) ∧ Below w.heap.size w w' := by
  have q : ¬ ((n : Int) < 0) := by omega
  have q1 : ¬ (4294967296 ≤ (n : Int)) := by omega
  have d := uimm n hn
  have dd := digits n hn
  generalize D n = S at *
  go_enter Tryd.func4, Tryd.ntmps4
  go_wp2_with (first | (go_at_call 7; (with_reducible refine (d _ h).mono ?_); rintro e w1 ⟨rfl, hb1⟩) | (go_at_call 8; (with_reducible refine (dd _).mono ?_); rintro e w2 ⟨rfl, hb2⟩))
  all_goals go_ret
  all_goals exact ⟨rfl, chain hb1 hb2⟩
theorem walk (a : Int) (w : World) (h : Pow w) : Calls Tryd.prog 4 #[.int .i64 a] w fun e w' => e = .returned (.bool true) ∧ Below w.heap.size w w' := by
  by_cases h0 : 0 ≤ a
  · by_cases h1 : a < 4294967296
    · obtain ⟨n, rfl⟩ := Int.eq_ofNat_of_zero_le h0
      exact walk_in n (by omega) w h
    · have q : ¬ (a < 0) := by omega
      have q1 : 4294967296 ≤ a := by omega
      go_enter Tryd.func4, Tryd.ntmps4
      go_wp2
      all_goals go_ret
      all_goals (refine ⟨rfl, ?_⟩)
      all_goals (repeat' (first | (with_reducible exact Below.refl _ _) | (with_reducible refine Below.drew ?_) | go_size))
  · have q : a < 0 := by omega
    go_enter Tryd.func4, Tryd.ntmps4
    go_wp2
    all_goals go_ret
    all_goals (refine ⟨rfl, ?_⟩)
    all_goals (repeat' (first | (with_reducible exact Below.refl _ _) | (with_reducible refine Below.drew ?_) | go_size))

/-! ### What the row's list gives -/
theorem t_pow : (Tryd.prog.globals[4]?).map (·.type) = some 44 := by kernel_rfl
theorem cellsA : Tryd.prog.cellsOf 44 = 20 := by kernel_rfl
theorem cellsE : Tryd.prog.cellsOf 36 = 1 := by kernel_rfl
theorem gp : Tryd.prog.globalNamed "internal/strconv.uint64pow10" = some 4 := by kernel_rfl
theorem table {W : World} (h : laidMetH Tryd.prog Rows.fnUimmTextRow.laid W) : Pow W := by
  have h2 := laidMetH.filter (fun x => x.1 == "internal/strconv.uint64pow10") h
  have h3 : laidMetH Tryd.prog [("internal/strconv.uint64pow10", Rows.laid_internal_strconv_uint64pow10)] W := h2
  exact Lib.tabIs_of_head (rest := []) gp t_pow Tryd.underlying44 Tryd.underlying36 cellsE cellsA h3

set_option maxRecDepth 100000 in
theorem contract (H : Type) (enc : TypeId × Value → H) (W : World) (base : Nat) (args : Array Value) (ds gs : List (DataW H)) (before : List MemPlace)
    (hval : ∀ (j : Nat) t v, Tryd.f4.params[j]? = some t → args[j]? = some v → Value.okWide Tryd.prog W .any base t v)
    (hW : DataW.Whole enc Tryd.prog Tryd.f4.params.toList Rows.fnUimmTextSpec.vars false W args.toList ds gs before) (hL : laidMetH Tryd.prog Rows.fnUimmTextRow.laid W) :
    Calls Tryd.prog 4 args W fun e W' => ∃ v, e = .returned v ∧ Rows.fnUimmTextSpec.post enc Tryd.prog Tryd.f4 false true false false W args v W' := by
  have hW' := hW
  obtain ⟨p, q, hA0, hV, rfl, hfz, hnd⟩ := hW
  have hA : DataW.TrodAll enc Tryd.prog W 0 (fun _ => true) true Tryd.f4.params.toList args.toList ds p := hA0
  rw [Tryd.params4] at hA hval
  obtain ⟨v0, vs0, d0, ds0, p0, q0, hargs, rfl, rfl, h0, r0⟩ := trodAll_cons hA
  obtain ⟨rfl, rfl, rfl⟩ := trodAll_nil r0
  obtain rfl : args = #[v0] := by cases args; simp_all
  obtain ⟨rfl, rfl⟩ := trodVars_none hV
  obtain ⟨a0, rfl, rfl, rfl, w0⟩ := open_int Tryd.underlying3 (hval 0 3 v0 rfl rfl) h0
  clear hA0
  simp only [List.append_nil] at hW'
  refine (walk a0 W (table hL)).mono fun e W' ⟨he, hg⟩ => ?_
  subst he
  exact ⟨_, rfl, _, _, _, [], [], [], hW', (trodAll_cons_mk (shut_bool Tryd.underlying4 _) trodAll_mk0), (trodAll_cons_mk (shut_int Tryd.underlying3 w0) trodAll_mk0), rfl, hg.frame _, fun h => by cases h⟩

/-! ### One start that fits -/
theorem laid_met (os : Os) : laidMet Tryd.prog Rows.fnUimmTextRow.laid ((World.doorLaid Tryd.prog 2000 os).forCall (fun _ _ => 0) ⟨#[], #[.int .i64 0], []⟩).memory :=
  laidMet_of_run' 8 (by kernel_rfl) (by kernel_rfl)

set_option maxRecDepth 100000 in
theorem lifted (os : Os) (started : os.Started) (H : Type) (enc : TypeId × Value → H) (F : Stop.Interp) :
    ReturnsInHanded {} Tryd.checked os 4 .any ((OpenSpec.ofChange Rows.fnUimmTextSpec).preRow enc Tryd.prog Tryd.f4 Rows.fnUimmTextRow.domain false Rows.fnUimmTextRow.laid) (((OpenSpec.ofChange Rows.fnUimmTextSpec).at F).post enc Tryd.prog Tryd.f4 false true false false) := by
  refine returnsInHanded_of_row (C := Tryd.checked) (s := OpenSpec.ofChange Rows.fnUimmTextSpec) own started (by kernel_rfl) Tryd.func4
    (witness_row_atRef (enc := enc) (C := Tryd.checked) false (World.doorLaid Tryd.prog 2000 os) #[.int .i64 0] rfl (by kernel_rfl) (by kernel_rfl) (by kernel_rfl)
      (OpenSpec.preRow_of_B rfl 8 (by kernel_rfl) (by kernel_rfl) (laid_met os))) ?_
  intro W base args ds gs before hval hW _ _ _ hL _ _
  exact contract H enc W base args ds gs before hval hW hL

theorem said : Rows.FnUimmTextSaid :=
  OpenClaim.holds_of_cond 4 Tryd.f4 rfl rfl rfl rfl rfl rfl rfl ⟨rfl, rfl, rfl, rfl, rfl⟩ rfl rfl rfl rfl rfl (by kernel_rfl) Tryd.func4 (by kernel_rfl)
    (of_decide_eq_true (by kernel_rfl)) (by unfold Func.isWrapper; first | (rw [if_pos (by decide +kernel)]; kernel_rfl) | (rw [if_neg (by decide +kernel)]; exact ⟨rfl, rfl⟩))
    (fun os started H enc _ F => by rw [OpenClaim.pre_eq_preRow]; exact lifted os started H enc F)

theorem plain (f : FuncId) (fn : Func) (hf : Tryd.pinned.checked.prog.funcNamed "loop.example/pub-g03336/laws.FnUimmText" = some f) (hfn : Tryd.pinned.checked.prog.funcs[f]? = some fn) :
    false = Tryd.pinned.checked.prog.looks [] ∧ ∀ (j : Nat) t, fn.params[j]? = some t → Tryd.pinned.checked.prog.wantsStandIn t = false := by
  obtain rfl : f = 4 := Option.some.inj ((show Tryd.prog.funcNamed "loop.example/pub-g03336/laws.FnUimmText" = some 4 by kernel_rfl).symm.trans hf) |>.symm
  obtain rfl : fn = Tryd.f4 := (Option.some.inj (Tryd.func4.symm.trans hfn)).symm
  refine ⟨by kernel_rfl, fun j t ht => ?_⟩
  rw [Tryd.params4] at ht
  obtain rfl : t = 3 := by simpa using Array.mem_of_getElem? ht
  exact (show Tryd.prog.wantsStandIn 3 = false by kernel_rfl)

/-- THE CARD. -/
theorem proved : Rows.FnUimmTextCardSaid :=
  Claim7.holds_tied_plain_at .later [] _ _ _ _ said (fun _ h => by cases h) (by kernel_rfl) (fun _ h => by cases h) fnUimmText_row_tie rfl ⟨rfl, rfl⟩ (by kernel_rfl) rfl plain (by kernel_rfl)
#print axioms proved

end Go.Proofs.YtfmpammdncaaiaaDoor.fnUimmText
