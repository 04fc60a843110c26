/-
  'laws.FnVTypeText' returns true for every two numbers, where the four tables read as their initialisers lay them; the tied card. No condition.
-/
import Derived.Test.YtfmpammdncaaiaaDoorCards
import Derived.Test.YtfmpammdncaaiaaDoorTie
import Derived.Test.YtfmpammdncaaiaaDoorQ
import Derived.WalkKit
import Derived.WalkLawsBesides
import Derived.WalkSpells
import Derived.ProofKit
import Derived.OpenShut
import Derived.OpenVars
import Derived.Handy
import Derived.RegionTactic
import Derived.BigRegion
import Derived.LaidMore
import Derived.SliceStrings
import Derived.ChangeAlike
import Derived.Deep.RegionHeld3
import Derived.Deep.RegionWith
import Derived.Deep.DeepHandedRow
import Derived.Deep.DeepWitnessRowRef
import Derived.Deep.DeepMust
import Derived.Lib.LaidTab
namespace Go.Proofs.YtfmpammdncaaiaaDoor.fnVTypeText
open Go Go.ChangeShapes Go.WideShapes Go.ChangeAt Go.RowKit
set_option linter.unusedVariables false
theorem own : ownKnob Tryd.prog.godebug = none := by kernel_rfl
theorem mixed : Tryd.prog.follows .mixedOrders = true := by kernel_rfl
theorem small {a b : ByteArray} (h : a.size + b.size ≤ 1000) : ¬ a.size + b.size > maxLen := by
  have : (1000 : Nat) ≤ maxLen := by decide
  omega
theorem chain {W A B : World} (h : Below W.heap.size W A) (h2 : Below A.heap.size A B) : Below W.heap.size W B :=
  h.trans ⟨h2.os, h2.tape, h2.output, h2.size, fun k hk => h2.block k (Nat.lt_of_lt_of_le hk h.size)⟩
theorem keepc {W w1 : World} {b o : Nat} {v : Value} (hb : Below W.heap.size W w1) (h : W.cell? ⟨b, o, none⟩ = some v) : w1.cell? ⟨b, o, none⟩ = some v :=
  (hb.cell (p := ⟨b, o, none⟩) (World.block_lt_of_cell? W _ h)).trans h

/-! ### The texts, in plain Lean -/
def sew (i : Nat) : ByteArray := [(⟨#[69, 56]⟩ : ByteArray), (⟨#[69, 49, 54]⟩ : ByteArray), (⟨#[69, 51, 50]⟩ : ByteArray), (⟨#[69, 54, 52]⟩ : ByteArray), (⟨#[]⟩ : ByteArray), (⟨#[]⟩ : ByteArray), (⟨#[]⟩ : ByteArray), (⟨#[]⟩ : ByteArray)].getD i ByteArray.empty
def mul (i : Nat) : ByteArray := [(⟨#[77, 49]⟩ : ByteArray), (⟨#[77, 50]⟩ : ByteArray), (⟨#[77, 52]⟩ : ByteArray), (⟨#[77, 56]⟩ : ByteArray), (⟨#[]⟩ : ByteArray), (⟨#[77, 70, 56]⟩ : ByteArray), (⟨#[77, 70, 52]⟩ : ByteArray), (⟨#[77, 70, 50]⟩ : ByteArray)].getD i ByteArray.empty
def ta (i : Nat) : ByteArray := [(⟨#[84, 85]⟩ : ByteArray), (⟨#[84, 65]⟩ : ByteArray)].getD i ByteArray.empty
def ma (i : Nat) : ByteArray := [(⟨#[77, 85]⟩ : ByteArray), (⟨#[77, 65]⟩ : ByteArray)].getD i ByteArray.empty
def T (n : Nat) : ByteArray := sew (n / 8 % 8) ++ (⟨#[44, 32]⟩ : ByteArray) ++ mul (n % 8) ++ (⟨#[44, 32]⟩ : ByteArray) ++ ta (n / 64 % 2) ++ (⟨#[44, 32]⟩ : ByteArray) ++ ma (n / 128 % 2)
def Lg (n : Nat) : Bool := !(n % 8 == 4) && Nat.blt (n / 8 % 8) 4
def code (s : ByteArray) : Nat := s.data.toList.foldl (fun c b => c * 256 + b.toNat) 0
def back : List (Nat × Nat) := [(1403936696143351718283392443239765, 0), (1403936696143370165027466152791381, 1), (1403936696143407058515613571894613, 2), (1403936696143480845491908410101077, 3), (359407794212797431787671118980074837, 5), (359407794212797358000694824141868373, 6), (359407794212797321107206676722765141, 7), (359266613286648396149733507045805397, 8), (359266613286648414596477580755357013, 9), (359266613286648451489965728174460245, 10), (359266613286648525276942023012666709, 11), (91972253001382088806238900457236876629, 13), (91972253001382088732451924162398670165, 14), (91972253001382088695558436014979566933, 15), (359306861193205642433231027372576085, 16), (359306861193205660879975101082127701, 17), (359306861193205697773463248501230933, 18), (359306861193205771560439543339437397, 19), (91982556465460743854814265660890172757, 21), (91982556465460743781027289366051966293, 22), (91982556465460743744133801218632863061, 23), (359367866878341625973178056214334805, 24), (359367866878341644419922129923886421, 25), (359367866878341681313410277342989653, 26), (359367866878341755100386572181196117, 27), (91998173920855555641040705044380405077, 29), (91998173920855555567253728749542198613, 30), (91998173920855555530360240602123095381, 31), (1403936696143351718283306543893845, 64), (1403936696143370165027380253445461, 65), (1403936696143407058515527672548693, 66), (1403936696143480845491822510755157, 67), (359407794212797431787671033080728917, 69), (359407794212797358000694738242522453, 70), (359407794212797321107206590823419221, 71), (359266613286648396149733421146459477, 72), (359266613286648414596477494856011093, 73), (359266613286648451489965642275114325, 74), (359266613286648525276941937113320789, 75), (91972253001382088806238900371337530709, 77), (91972253001382088732451924076499324245, 78), (91972253001382088695558435929080221013, 79), (359306861193205642433230941473230165, 80), (359306861193205660879975015182781781, 81), (359306861193205697773463162601885013, 82), (359306861193205771560439457440091477, 83), (91982556465460743854814265574990826837, 85), (91982556465460743781027289280152620373, 86), (91982556465460743744133801132733517141, 87), (359367866878341625973177970314988885, 88), (359367866878341644419922044024540501, 89), (359367866878341681313410191443643733, 90), (359367866878341755100386486281850197, 91), (91998173920855555641040704958481059157, 93), (91998173920855555567253728663642852693, 94), (91998173920855555530360240516223749461, 95), (1403936696143351718283392443239745, 128), (1403936696143370165027466152791361, 129), (1403936696143407058515613571894593, 130), (1403936696143480845491908410101057, 131), (359407794212797431787671118980074817, 133), (359407794212797358000694824141868353, 134), (359407794212797321107206676722765121, 135), (359266613286648396149733507045805377, 136), (359266613286648414596477580755356993, 137), (359266613286648451489965728174460225, 138), (359266613286648525276942023012666689, 139), (91972253001382088806238900457236876609, 141), (91972253001382088732451924162398670145, 142), (91972253001382088695558436014979566913, 143), (359306861193205642433231027372576065, 144), (359306861193205660879975101082127681, 145), (359306861193205697773463248501230913, 146), (359306861193205771560439543339437377, 147), (91982556465460743854814265660890172737, 149), (91982556465460743781027289366051966273, 150), (91982556465460743744133801218632863041, 151), (359367866878341625973178056214334785, 152), (359367866878341644419922129923886401, 153), (359367866878341681313410277342989633, 154), (359367866878341755100386572181196097, 155), (91998173920855555641040705044380405057, 157), (91998173920855555567253728749542198593, 158), (91998173920855555530360240602123095361, 159), (1403936696143351718283306543893825, 192), (1403936696143370165027380253445441, 193), (1403936696143407058515527672548673, 194), (1403936696143480845491822510755137, 195), (359407794212797431787671033080728897, 197), (359407794212797358000694738242522433, 198), (359407794212797321107206590823419201, 199), (359266613286648396149733421146459457, 200), (359266613286648414596477494856011073, 201), (359266613286648451489965642275114305, 202), (359266613286648525276941937113320769, 203), (91972253001382088806238900371337530689, 205), (91972253001382088732451924076499324225, 206), (91972253001382088695558435929080220993, 207), (359306861193205642433230941473230145, 208), (359306861193205660879975015182781761, 209), (359306861193205697773463162601884993, 210), (359306861193205771560439457440091457, 211), (91982556465460743854814265574990826817, 213), (91982556465460743781027289280152620353, 214), (91982556465460743744133801132733517121, 215), (359367866878341625973177970314988865, 216), (359367866878341644419922044024540481, 217), (359367866878341681313410191443643713, 218), (359367866878341755100386486281850177, 219), (91998173920855555641040704958481059137, 221), (91998173920855555567253728663642852673, 222), (91998173920855555530360240516223749441, 223)]
theorem backs : (List.range 256).all (fun n => !Lg n || ((back.lookup (code (T n)) == some n) && Nat.blt 0 (T n).size)) = true := by decide +kernel
theorem backs_at {n : Nat} (hn : n < 256) (h : Lg n = true) : back.lookup (code (T n)) = some n ∧ 0 < (T n).size := by
  have := List.all_eq_true.1 backs n (List.mem_range.2 hn)
  simp only [h, Bool.not_true, Bool.false_or, Bool.and_eq_true, beq_iff_eq] at this
  exact ⟨this.1, Nat.blt_eq ▸ this.2⟩
theorem apart {a b : Nat} (ha : a < 256) (hb : b < 256) (la : Lg a = true) (lb : Lg b = true) (h : T a = T b) : a = b := by
  have x := (backs_at ha la).1
  rw [h, (backs_at hb lb).1] at x
  exact (Option.some.inj x).symm
theorem sizes : (List.range 8).all (fun i => Nat.ble (sew i).size 100 && Nat.ble (mul i).size 100 && Nat.ble (ta i).size 100 && Nat.ble (ma i).size 100) = true := by decide +kernel
theorem sizes_at {i : Nat} (h : i < 8) : (sew i).size ≤ 100 ∧ (mul i).size ≤ 100 ∧ (ta i).size ≤ 100 ∧ (ma i).size ≤ 100 := by
  have := List.all_eq_true.1 sizes i (List.mem_range.2 h)
  simp only [Bool.and_eq_true, Nat.ble_eq] at this
  exact ⟨this.1.1.1, this.1.1.2, this.1.2, this.2⟩
theorem bitsOf : (List.range 256).all (fun n => (bits BinOp.and IntKind.u32 (n : Int) 7 == ((n % 8 : Nat) : Int)) && (bits BinOp.and IntKind.u32 ((n : Int) / 8) 7 == ((n / 8 % 8 : Nat) : Int)) && (bits BinOp.and IntKind.u32 ((n : Int) / 64) 1 == ((n / 64 % 2 : Nat) : Int)) && (bits BinOp.and IntKind.u32 ((n : Int) / 128) 1 == ((n / 128 % 2 : Nat) : Int)) && (IntKind.u32.wrap (n : Int) == (n : Int))) = true := by decide +kernel
theorem bits_at {n : Nat} (hn : n < 256) : bits BinOp.and IntKind.u32 (n : Int) 7 = ((n % 8 : Nat) : Int) ∧ bits BinOp.and IntKind.u32 ((n : Int) / 8) 7 = ((n / 8 % 8 : Nat) : Int) ∧ bits BinOp.and IntKind.u32 ((n : Int) / 64) 1 = ((n / 64 % 2 : Nat) : Int) ∧ bits BinOp.and IntKind.u32 ((n : Int) / 128) 1 = ((n / 128 % 2 : Nat) : Int) ∧ IntKind.u32.wrap (n : Int) = (n : Int) := by
  have := List.all_eq_true.1 bitsOf n (List.mem_range.2 hn)
  simp only [Bool.and_eq_true, beq_iff_eq] at this
  exact ⟨this.1.1.1.1, this.1.1.1.2, this.1.1.2, this.1.2, this.2⟩

/-! ### The walks -/
/-- What the four tables hold. -/
structure Tab (b0 o0 c0 b1 o1 c1 b2 o2 c2 b3 o3 c3 : Nat) (w : World) : Prop where
  h0 : w.cell? ⟨0, 0, none⟩ = some (.slice (some ⟨b0, o0, none⟩) 8 c0)
  h1 : w.cell? ⟨1, 0, none⟩ = some (.slice (some ⟨b1, o1, none⟩) 8 c1)
  h2 : w.cell? ⟨2, 0, none⟩ = some (.slice (some ⟨b2, o2, none⟩) 2 c2)
  h3 : w.cell? ⟨3, 0, none⟩ = some (.slice (some ⟨b3, o3, none⟩) 2 c3)
  s0 : ∀ i, i < 8 → w.cell? ⟨b0, o0 + i, none⟩ = some (.string (sew i))
  s1 : ∀ i, i < 8 → w.cell? ⟨b1, o1 + i, none⟩ = some (.string (mul i))
  s2 : ∀ i, i < 2 → w.cell? ⟨b2, o2 + i, none⟩ = some (.string (ta i))
  s3 : ∀ i, i < 2 → w.cell? ⟨b3, o3 + i, none⟩ = some (.string (ma i))
theorem Tab.keep {b0 o0 c0 b1 o1 c1 b2 o2 c2 b3 o3 c3 : Nat} {w w' : World} (h : Tab b0 o0 c0 b1 o1 c1 b2 o2 c2 b3 o3 c3 w) (hb : Below w.heap.size w w') : Tab b0 o0 c0 b1 o1 c1 b2 o2 c2 b3 o3 c3 w' :=
  ⟨keepc hb h.h0, keepc hb h.h1, keepc hb h.h2, keepc hb h.h3, fun i hi => keepc hb (h.s0 i hi), fun i hi => keepc hb (h.s1 i hi), fun i hi => keepc hb (h.s2 i hi), fun i hi => keepc hb (h.s3 i hi)⟩
set_option maxRecDepth 100000 in
set_option maxHeartbeats 4000000 in
theorem vstr (x i j k l : Nat) (b0 o0 c0 b1 o1 c1 b2 o2 c2 b3 o3 c3 : Nat) (s0 s1 s2 s3 : ByteArray) (w : World)
    (e1 : bits BinOp.and IntKind.u32 (x : Int) 7 = (i : Int)) (e0 : bits BinOp.and IntKind.u32 ((x : Int) / 8) 7 = (j : Int)) (e2 : bits BinOp.and IntKind.u32 ((x : Int) / 64) 1 = (k : Int)) (e3 : bits BinOp.and IntKind.u32 ((x : Int) / 128) 1 = (l : Int))
    (hi : i < 8) (hj : j < 8) (hk : k < 2) (hl : l < 2) (z0 : s0.size ≤ 100) (z1 : s1.size ≤ 100) (z2 : s2.size ≤ 100) (z3 : s3.size ≤ 100)
    (g0 : w.cell? ⟨0, 0, none⟩ = some (.slice (some ⟨b0, o0, none⟩) 8 c0)) (g1 : w.cell? ⟨1, 0, none⟩ = some (.slice (some ⟨b1, o1, none⟩) 8 c1)) (g2 : w.cell? ⟨2, 0, none⟩ = some (.slice (some ⟨b2, o2, none⟩) 2 c2)) (g3 : w.cell? ⟨3, 0, none⟩ = some (.slice (some ⟨b3, o3, none⟩) 2 c3)) (g4 : w.cell? ⟨b0, o0 + j, none⟩ = some (.string s0)) (g5 : w.cell? ⟨b1, o1 + i, none⟩ = some (.string s1)) (g6 : w.cell? ⟨b2, o2 + k, none⟩ = some (.string s2)) (g7 : w.cell? ⟨b3, o3 + l, none⟩ = some (.string s3)) :
    Calls Tryd.prog 9 #[.int .u32 x] w fun e w' => e = .returned (.string (s0 ++ (⟨#[44, 32]⟩ : ByteArray) ++ s1 ++ (⟨#[44, 32]⟩ : ByteArray) ++ s2 ++ (⟨#[44, 32]⟩ : ByteArray) ++ s3)) ∧ Below w.heap.size w w' := by
  have pi : (0 : Int) ≤ (i : Int) := by omega
  have qi : (i : Int) < 8 := by omega
  have pj : (0 : Int) ≤ (j : Int) := by omega
  have qj : (j : Int) < 8 := by omega
  have pk : (0 : Int) ≤ (k : Int) := by omega
  have qk : (k : Int) < 2 := by omega
  have pl : (0 : Int) ≤ (l : Int) := by omega
  have ql : (l : Int) < 2 := by omega
  have y0 : ¬ 9223372036854775807 < s0.size + 2 := by omega
  have x0 : s0.size + 2 ≤ 9223372036854775807 := by omega
  have y1 : ¬ 9223372036854775807 < s0.size + 2 + s1.size := by omega
  have x1 : s0.size + 2 + s1.size ≤ 9223372036854775807 := by omega
  have y2 : ¬ 9223372036854775807 < s0.size + 2 + s1.size + 2 := by omega
  have x2 : s0.size + 2 + s1.size + 2 ≤ 9223372036854775807 := by omega
  have y3 : ¬ 9223372036854775807 < s0.size + 2 + s1.size + 2 + s2.size := by omega
  have x3 : s0.size + 2 + s1.size + 2 + s2.size ≤ 9223372036854775807 := by omega
  have y4 : ¬ 9223372036854775807 < s0.size + 2 + s1.size + 2 + s2.size + 2 := by omega
  have x4 : s0.size + 2 + s1.size + 2 + s2.size + 2 ≤ 9223372036854775807 := by omega
  have y5 : ¬ 9223372036854775807 < s0.size + 2 + s1.size + 2 + s2.size + 2 + s3.size := by omega
  have x5 : s0.size + 2 + s1.size + 2 + s2.size + 2 + s3.size ≤ 9223372036854775807 := by omega
  have a0 : ¬ (s0).size + (⟨#[44, 32]⟩ : ByteArray).size > maxLen := small (by have hc : (⟨#[44, 32]⟩ : ByteArray).size = 2 := rfl; simp only [hc]; omega)
  have a1 : ¬ (s0 ++ (⟨#[44, 32]⟩ : ByteArray)).size + s1.size > maxLen := small (by have hc : (⟨#[44, 32]⟩ : ByteArray).size = 2 := rfl; simp only [ByteArray.size_append, hc]; omega)
  have a2 : ¬ (s0 ++ (⟨#[44, 32]⟩ : ByteArray) ++ s1).size + (⟨#[44, 32]⟩ : ByteArray).size > maxLen := small (by have hc : (⟨#[44, 32]⟩ : ByteArray).size = 2 := rfl; simp only [ByteArray.size_append, hc]; omega)
  have a3 : ¬ (s0 ++ (⟨#[44, 32]⟩ : ByteArray) ++ s1 ++ (⟨#[44, 32]⟩ : ByteArray)).size + s2.size > maxLen := small (by have hc : (⟨#[44, 32]⟩ : ByteArray).size = 2 := rfl; simp only [ByteArray.size_append, hc]; omega)
  have a4 : ¬ (s0 ++ (⟨#[44, 32]⟩ : ByteArray) ++ s1 ++ (⟨#[44, 32]⟩ : ByteArray) ++ s2).size + (⟨#[44, 32]⟩ : ByteArray).size > maxLen := small (by have hc : (⟨#[44, 32]⟩ : ByteArray).size = 2 := rfl; simp only [ByteArray.size_append, hc]; omega)
  have a5 : ¬ (s0 ++ (⟨#[44, 32]⟩ : ByteArray) ++ s1 ++ (⟨#[44, 32]⟩ : ByteArray) ++ s2 ++ (⟨#[44, 32]⟩ : ByteArray)).size + s3.size > maxLen := small (by have hc : (⟨#[44, 32]⟩ : ByteArray).size = 2 := rfl; simp only [ByteArray.size_append, hc]; omega)
  go_enter Tryd.func9, Tryd.ntmps9
  go_wp2
  go_region_held3 (fun w' => w'.cell? ⟨0, 0, none⟩ = some (.slice (some ⟨b0, o0, none⟩) 8 c0) ∧ w'.cell? ⟨1, 0, none⟩ = some (.slice (some ⟨b1, o1, none⟩) 8 c1) ∧ w'.cell? ⟨2, 0, none⟩ = some (.slice (some ⟨b2, o2, none⟩) 2 c2) ∧ w'.cell? ⟨3, 0, none⟩ = some (.slice (some ⟨b3, o3, none⟩) 2 c3) ∧ w'.cell? ⟨b0, o0 + j, none⟩ = some (.string s0) ∧ w'.cell? ⟨b1, o1 + i, none⟩ = some (.string s1) ∧ w'.cell? ⟨b2, o2 + k, none⟩ = some (.string s2) ∧ w'.cell? ⟨b3, o3 + l, none⟩ = some (.string s3)) (go_keep)
    (fail)
  go_wp2_with fail
  all_goals go_ret
  all_goals exact ⟨rfl, Below.drew (Below.refl _ _)⟩
set_option maxRecDepth 100000 in
set_option maxHeartbeats 4000000 in
theorem vt (n : Nat) (hn : n < 256) {b0 o0 c0 b1 o1 c1 b2 o2 c2 b3 o3 c3 : Nat} (w : World) (h : Tab b0 o0 c0 b1 o1 c1 b2 o2 c2 b3 o3 c3 w) : Calls Tryd.prog 6 #[.int .i64 (n : Int)] w fun e w' => e = .returned (.string (T n)) ∧ Below w.heap.size w w' := by
  obtain ⟨e1, e0, e2, e3, e4⟩ := bits_at hn
  have z := fun {i : Nat} (h : i < 8) => sizes_at h
  have d := vstr n (n % 8) (n / 8 % 8) (n / 64 % 2) (n / 128 % 2) b0 o0 c0 b1 o1 c1 b2 o2 c2 b3 o3 c3 (sew (n / 8 % 8)) (mul (n % 8)) (ta (n / 64 % 2)) (ma (n / 128 % 2)) w e1 e0 e2 e3 (by omega) (by omega) (by omega) (by omega)
    (sizes_at (by omega)).1 (sizes_at (by omega)).2.1 (sizes_at (by omega)).2.2.1 (sizes_at (by omega)).2.2.2 h.h0 h.h1 h.h2 h.h3 (h.s0 _ (by omega)) (h.s1 _ (by omega)) (h.s2 _ (by omega)) (h.s3 _ (by omega))
  clear e1 e0 e2 e3
  go_enter Tryd.func6, Tryd.ntmps6
  go_wp2_with (go_at_call 9; (with_reducible refine d.mono ?_); rintro e w' ⟨rfl, hb⟩)
  all_goals go_ret
  all_goals exact ⟨rfl, hb⟩
/-- 'legal'. -/
def good (r : Q.Out) (b : Bool) : Bool := match r with | some (.bool x, []) => x == b | _ => false
theorem good_eq {r : Q.Out} {b : Bool} (h : good r b = true) : r = some (.bool b, []) := by
  unfold good at h
  split at h
  · rw [beq_iff_eq] at h
    rw [h]
  · cases h
theorem chks : (List.range 256).all (fun n => good (Q.run Tryd.prog 4 3 [] 5 #[.int .i64 (n : Int)]) (Lg n)) = true := by kernel_rfl
theorem leg_in {n : Nat} (hn : n < 256) : Q.Gives Tryd.prog 5 #[.int .i64 (n : Int)] (.bool (Lg n)) := by
  have h := good_eq (List.all_eq_true.1 chks n (List.mem_range.2 hn))
  exact Q.gives mixed h trivial
theorem below_of {w w' : World} (h : ∃ m, w' = w.drewN m) : Below w.heap.size w w' := by
  obtain ⟨m, rfl⟩ := h
  exact ⟨rfl, rfl, rfl, Nat.le_refl _, fun _ _ => rfl⟩
def LgI (a : Int) : Bool := decide (0 ≤ a) && decide (a < 256) && Lg a.toNat
theorem leg (a : Int) (w : World) : Calls Tryd.prog 5 #[.int .i64 a] w fun e w' => e = .returned (.bool (LgI a)) ∧ Below w.heap.size w w' := by
  by_cases h0 : 0 ≤ a
  · by_cases h1 : a < 256
    · obtain ⟨n, rfl⟩ := Int.eq_ofNat_of_zero_le h0
      refine (leg_in (n := n) (by omega) w).mono fun e w' ⟨he, hw⟩ => ⟨?_, below_of hw⟩
      rw [he]
      simp [LgI, h1]
    · have d0 : decide (0 ≤ a) = true := by simp [h0]
      have d1 : decide (a < 256) = false := by simp [h1]
      have e : LgI a = false := by simp [LgI, d1]
      rw [e]
      go_enter Tryd.func5, Tryd.ntmps5
      go_wp2
      all_goals go_ret
      all_goals (refine ⟨rfl, ?_⟩)
      all_goals (repeat' (first | (with_reducible exact Below.refl _ _) | (with_reducible refine Below.drew ?_) | go_size))
  · have d0 : decide (0 ≤ a) = false := by simp [h0]
    have e : LgI a = false := by simp [LgI, d0]
    rw [e]
    go_enter Tryd.func5, Tryd.ntmps5
    go_wp2
    all_goals go_ret
    all_goals (refine ⟨rfl, ?_⟩)
    all_goals (repeat' (first | (with_reducible exact Below.refl _ _) | (with_reducible refine Below.drew ?_) | go_size))
def Bel (w w' : World) : Prop := Below w.heap.size w w'
set_option maxRecDepth 100000 in
set_option maxHeartbeats 4000000 in
theorem walk_no1 (a b : Int) (h : LgI a = false) (w : World) : Calls Tryd.prog 3 #[.int .i64 a, .int .i64 b] w fun e w' => e = .returned (.bool true) ∧ Below w.heap.size w w' := by
  have d := leg a
  rw [h] at d
  go_enter Tryd.func3, Tryd.ntmps3
  go_wp2_with (go_at_call 5; (with_reducible refine (d _).mono ?_); rintro e w1 ⟨rfl, hb1⟩)
  all_goals go_ret
  all_goals exact ⟨rfl, hb1⟩
set_option maxRecDepth 100000 in
set_option maxHeartbeats 4000000 in
theorem walk_no2 (a b : Int) (h : LgI a = true) (h2 : LgI b = false) (w : World) : Calls Tryd.prog 3 #[.int .i64 a, .int .i64 b] w fun e w' => e = .returned (.bool true) ∧ Below w.heap.size w w' := by
  have d := leg a
  rw [h] at d
  have d2 := leg b
  rw [h2] at d2
  go_enter Tryd.func3, Tryd.ntmps3
  go_wp2_with (first | (go_at_call 5; (with_reducible refine (d _).mono ?_); rintro e w1 ⟨rfl, hb1⟩) | (go_at_call 5; (with_reducible refine (d2 _).mono ?_); rintro e w2 ⟨rfl, hb2⟩))
  all_goals go_ret
  all_goals exact ⟨rfl, chain hb1 hb2⟩
set_option maxRecDepth 100000 in
set_option maxHeartbeats 4000000 in
theorem walk_yes (a b : Nat) (ha : a < 256) (hb : b < 256) (la : Lg a = true) (lb : Lg b = true) {b0 o0 c0 b1 o1 c1 b2 o2 c2 b3 o3 c3 : Nat} (w : World) (h : Tab b0 o0 c0 b1 o1 c1 b2 o2 c2 b3 o3 c3 w) : Calls Tryd.prog 3 #[.int .i64 (a : Int), .int .i64 (b : Int)] w fun e w' => e = .returned (.bool true) ∧ Below w.heap.size w w' := by
  have d := leg_in ha
  rw [la] at d
  have d2 := leg_in hb
  rw [lb] at d2
  have d' : ∀ w, Calls _ _ _ w _ := d
  have d2' : ∀ w, Calls _ _ _ w _ := d2
  have v1 := fun (w : World) (h : Tab b0 o0 c0 b1 o1 c1 b2 o2 c2 b3 o3 c3 w) => vt a ha w h
  have v2 := fun (w : World) (h : Tab b0 o0 c0 b1 o1 c1 b2 o2 c2 b3 o3 c3 w) => vt b hb w h
  have n0 : (0 : Int) < ((T a).size : Int) := by have := (backs_at ha la).2; omega
  have key : (((T a).toList == (T b).toList) == ((a : Int) == (b : Int))) = true := by
    by_cases e : a = b
    · subst e; simp
    · have e1 : ((T a).toList == (T b).toList) = false := by rw [beq_eq_false_iff_ne, ByteArray.toList_eq, ByteArray.toList_eq]; exact fun h => e (apart ha hb la lb (bytes_inj h))
      have e2 : ((a : Int) == (b : Int)) = false := by rw [beq_eq_false_iff_ne]; omega
      rw [e1, e2]; rfl
  clear d d2 la lb
  generalize T a = s at *
  generalize T b = t at *
  generalize (a : Int) = x at *
  generalize (b : Int) = y at *
  go_enter Tryd.func3, Tryd.ntmps3
  go_wp2_with (first
    | (go_at_call 5; (with_reducible refine (d' _).mono ?_); rintro e w1 ⟨rfl, hb1⟩; have hb1' := below_of hb1; have t1 := h.keep hb1'; clear hb1)
    | (go_at_call 5; (with_reducible refine (d2' _).mono ?_); rintro e w2 ⟨rfl, hb2⟩; have hb2' := below_of hb2; have t2 := t1.keep hb2'; clear hb2)
    | (go_at_call 6; (with_reducible refine (v1 _ t2).mono ?_); rintro e w3 ⟨rfl, hb3⟩; have t3 := t2.keep hb3)
    | (go_at_call 6; (with_reducible refine (v2 _ t3).mono ?_); rintro e w4 ⟨rfl, hb4⟩))
  all_goals go_ret
  all_goals exact ⟨rfl, chain (chain (chain hb1' hb2') hb3) hb4⟩

/-! ### What the row's list gives -/
theorem row_strs {H : Type} {enc : TypeId × Value → H} {PP : Program} {W : World} {base : Nat} {sp : Nat → Bool} {held : Bool} {t e : TypeId} {fuel : Nat} {cs : List Value} {ls : List (List UInt8)} {l0 : List UInt8} {p : List MemPlace}
    (ht : PP.underlying t = some (.slice e)) (he : PP.underlying e = some .string) (hc : PP.cellsOf e = 1) (h0 : ls[0]? = some l0)
    (h : DataW.trod enc PP W base sp held fuel t cs = some (.slice (ls.map fun l => .lit (.string l)) [], p)) :
    ∃ b o cap, cs = [.slice (some ⟨b, o, none⟩) ls.length cap] ∧ ∀ i l, ls[i]? = some l → W.cell? ⟨b, o + i, none⟩ = some (.string ⟨l.toArray⟩) := by
  obtain ⟨a, cap, hcs, _, hel⟩ := open_row ht hc h
  have each : ∀ i l, ls[i]? = some l → W.cell? (a.add i) = some (.string ⟨l.toArray⟩) := by
    intro i l hl
    obtain ⟨v, n, q, hcell, hr⟩ := hel i (.lit (.string l)) (by rw [List.getElem?_map, hl]; rfl)
    obtain ⟨s, hs, hd, _⟩ := DataW.trod_string he hr
    obtain rfl : v = .string s := by simpa using hs
    have hd' : (DataW.lit (.string l) : DataW H) = .lit (.string s.data.toList) := congrArg Prod.fst hd
    have hl' : l = s.data.toList := by injection hd' with h1; injection h1
    rw [hcell, hl']
  have hspot : a.spot = none := by simpa [Addr.add] using World.cell?_spot (each 0 l0 h0)
  obtain ⟨b, off, spot⟩ := a
  obtain rfl : spot = none := hspot
  refine ⟨b, off, cap, by simpa using hcs, fun i l hl => ?_⟩
  have := each i l hl
  rcases Nat.eq_zero_or_pos i with rfl | hp
  · simpa [Addr.add] using this
  · simpa [Addr.add, Nat.ne_of_gt hp] using this
theorem u32_ : Tryd.prog.underlying 32 = some (.slice 9) := Tryd.underlying32
theorem cells9 : Tryd.prog.cellsOf 9 = 1 := by kernel_rfl
def lsSew : List (List UInt8) := [[69, 56], [69, 49, 54], [69, 51, 50], [69, 54, 52], [], [], [], []]
def lsMul : List (List UInt8) := [[77, 49], [77, 50], [77, 52], [77, 56], [], [77, 70, 56], [77, 70, 52], [77, 70, 50]]
def lsTa : List (List UInt8) := [[84, 85], [84, 65]]
def lsMa : List (List UInt8) := [[77, 85], [77, 65]]
theorem asSew : ∀ i, i < 8 → lsSew[i]? = some (sew i).data.toList := by decide
theorem asMul : ∀ i, i < 8 → lsMul[i]? = some (mul i).data.toList := by decide
theorem asTa : ∀ i, i < 2 → lsTa[i]? = some (ta i).data.toList := by decide
theorem asMa : ∀ i, i < 2 → lsMa[i]? = some (ma i).data.toList := by decide
theorem var_cell {W : World} {name : String} {g : Nat} {cs : Array Value} {v : Value} (hg : Tryd.prog.globalNamed name = some g) (hv : W.var? Tryd.prog name = some cs) (e : cs.toList = [v]) : W.cell? ⟨g, 0, none⟩ = some v := by
  have := World.var?_cell hg hv 0
  rw [Array.eq_one_of_toList e] at this
  simpa using this
theorem g_mul : Tryd.prog.globalNamed "loop.example/pub-g03336/pub/riscv64asm.vlmulName" = some 1 := by kernel_rfl
theorem g_sew : Tryd.prog.globalNamed "loop.example/pub-g03336/pub/riscv64asm.vsewName" = some 0 := by kernel_rfl
theorem g_ta : Tryd.prog.globalNamed "loop.example/pub-g03336/pub/riscv64asm.vtaName" = some 2 := by kernel_rfl
theorem g_ma : Tryd.prog.globalNamed "loop.example/pub-g03336/pub/riscv64asm.vmaName" = some 3 := by kernel_rfl
theorem t0 : (Tryd.prog.globals[0]?).map (·.type) = some 32 := by kernel_rfl
theorem t1 : (Tryd.prog.globals[1]?).map (·.type) = some 32 := by kernel_rfl
theorem t2 : (Tryd.prog.globals[2]?).map (·.type) = some 32 := by kernel_rfl
theorem t3 : (Tryd.prog.globals[3]?).map (·.type) = some 32 := by kernel_rfl
theorem laid_list {W : World} (h : laidMetH Tryd.prog Rows.fnVTypeTextRow.laid W) : laidMet Tryd.prog Rows.fnVTypeTextRow.laid W := h
theorem bytes_mk (s : ByteArray) : (⟨s.data.toList.toArray⟩ : ByteArray) = s := by cases s; simp
theorem tables {W : World} (h : laidMetH Tryd.prog Rows.fnVTypeTextRow.laid W) : ∃ b0 o0 c0 b1 o1 c1 b2 o2 c2 b3 o3 c3, Tab b0 o0 c0 b1 o1 c1 b2 o2 c2 b3 o3 c3 W := by
  obtain ⟨ps, ⟨g1, t1', cs1, f1, p1, q1, hg1, ht1, hv1, hd1, ⟨g0, t0', cs0, f0, p0, q0, hg0, ht0, hv0, hd0, ⟨g2, t2', cs2, f2, p2, q2, hg2, ht2, hv2, hd2, ⟨g3, t3', cs3, f3, p3, q3, hg3, ht3, hv3, hd3, _, _⟩, _⟩, _⟩, _⟩, _⟩ := laid_list h
  obtain rfl := Option.some.inj (g_mul.symm.trans hg1)
  obtain rfl := Option.some.inj (g_sew.symm.trans hg0)
  obtain rfl := Option.some.inj (g_ta.symm.trans hg2)
  obtain rfl := Option.some.inj (g_ma.symm.trans hg3)
  obtain rfl := Option.some.inj (t1.symm.trans ht1)
  obtain rfl := Option.some.inj (t0.symm.trans ht0)
  obtain rfl := Option.some.inj (t2.symm.trans ht2)
  obtain rfl := Option.some.inj (t3.symm.trans ht3)
  obtain ⟨b1, o1, c1, e1, x1⟩ := row_strs (ls := lsMul) Tryd.underlying32 Tryd.underlying9 cells9 rfl hd1
  obtain ⟨b0, o0, c0, e0, x0⟩ := row_strs (ls := lsSew) Tryd.underlying32 Tryd.underlying9 cells9 rfl hd0
  obtain ⟨b2, o2, c2, e2, x2⟩ := row_strs (ls := lsTa) Tryd.underlying32 Tryd.underlying9 cells9 rfl hd2
  obtain ⟨b3, o3, c3, e3, x3⟩ := row_strs (ls := lsMa) Tryd.underlying32 Tryd.underlying9 cells9 rfl hd3
  exact ⟨b0, o0, c0, b1, o1, c1, b2, o2, c2, b3, o3, c3, var_cell g_sew hv0 e0, var_cell g_mul hv1 e1, var_cell g_ta hv2 e2, var_cell g_ma hv3 e3,
    fun i hi => by rw [x0 i _ (asSew i hi), bytes_mk], fun i hi => by rw [x1 i _ (asMul i hi), bytes_mk], fun i hi => by rw [x2 i _ (asTa i hi), bytes_mk], fun i hi => by rw [x3 i _ (asMa i hi), bytes_mk]⟩

theorem walk (a b : Int) {b0 o0 c0 b1 o1 c1 b2 o2 c2 b3 o3 c3 : Nat} (w : World) (h : Tab b0 o0 c0 b1 o1 c1 b2 o2 c2 b3 o3 c3 w) : Calls Tryd.prog 3 #[.int .i64 a, .int .i64 b] w fun e w' => e = .returned (.bool true) ∧ Below w.heap.size w w' := by
  cases ha : LgI a with
  | false => exact walk_no1 a b ha w
  | true =>
    cases hb : LgI b with
    | false => exact walk_no2 a b ha hb w
    | true =>
      simp only [LgI, Bool.and_eq_true, decide_eq_true_eq] at ha hb
      obtain ⟨⟨a0, a1⟩, la⟩ := ha
      obtain ⟨⟨b0', b1'⟩, lb⟩ := hb
      obtain ⟨n, rfl⟩ := Int.eq_ofNat_of_zero_le a0
      obtain ⟨m, rfl⟩ := Int.eq_ofNat_of_zero_le b0'
      exact walk_yes n m (by omega) (by omega) la lb w h

theorem laidOut : laidOutB Tryd.prog = true := by kernel_rfl
set_option maxRecDepth 100000 in
theorem contract (H : Type) (enc : TypeId × Value → H) (W : World) (base : Nat) (args : Array Value) (ds gs : List (DataW H)) (before : List MemPlace)
    (hval : ∀ (j : Nat) t v, Tryd.f3.params[j]? = some t → args[j]? = some v → Value.okWide Tryd.prog W .any base t v)
    (hW : DataW.Whole enc Tryd.prog Tryd.f3.params.toList Rows.fnVTypeTextSpec.vars false W args.toList ds gs before) (hL : laidMetH Tryd.prog Rows.fnVTypeTextRow.laid W) :
    Calls Tryd.prog 3 args W fun e W' => ∃ v, e = .returned v ∧ Rows.fnVTypeTextSpec.post enc Tryd.prog Tryd.f3 false true false false W args v W' := by
  have hW' := hW
  obtain ⟨p, q, hA0, hV, rfl, hfz, hnd⟩ := hW
  have hA : DataW.TrodAll enc Tryd.prog W 0 (fun _ => true) true Tryd.f3.params.toList args.toList ds p := hA0
  rw [Tryd.params3] at hA hval
  obtain ⟨v0, v1, d0, d1, p0, p1, hargs, rfl, rfl, h0, h1⟩ := trodAll_two hA
  obtain rfl : args = #[v0, v1] := by cases args; simp_all
  obtain ⟨a0, rfl, rfl, rfl, w0⟩ := open_int Tryd.underlying3 (hval 0 3 v0 rfl rfl) h0
  obtain ⟨a1, rfl, rfl, rfl, w1⟩ := open_int Tryd.underlying3 (hval 1 3 v1 rfl rfl) h1
  obtain ⟨g1, g2, g3, g4, rfl⟩ : ∃ g1 g2 g3 g4, gs = [g1, g2, g3, g4] := by
    match gs, hV with
    | [g1, g2, g3, g4], _ => exact ⟨_, _, _, _, rfl⟩
    | [], h => exact h.elim
    | [_], ⟨_, _, _, _, _, _, _, _, _, _, h, _⟩ => exact h.elim
    | [_, _], ⟨_, _, _, _, _, _, _, _, _, _, ⟨_, _, _, _, _, _, _, _, _, _, h, _⟩, _⟩ => exact h.elim
    | [_, _, _], ⟨_, _, _, _, _, _, _, _, _, _, ⟨_, _, _, _, _, _, _, _, _, _, ⟨_, _, _, _, _, _, _, _, _, _, h, _⟩, _⟩, _⟩ => exact h.elim
    | _ :: _ :: _ :: _ :: _ :: _, ⟨_, _, _, _, _, _, _, _, _, _, ⟨_, _, _, _, _, _, _, _, _, _, ⟨_, _, _, _, _, _, _, _, _, _, ⟨_, _, _, _, _, _, _, _, _, _, h, _⟩, _⟩, _⟩, _⟩ => exact h.elim
  clear hA0
  simp only [List.nil_append] at hW'
  obtain ⟨b0, o0, c0, b1, o1, c1, b2, o2, c2, b3, o3, c3, tab⟩ := tables hL
  refine (walk a0 a1 W tab).mono fun e W' ⟨he, hg⟩ => ?_
  subst he
  exact ⟨_, rfl, _, _, _, [], [], q, hW', (trodAll_cons_mk (shut_bool Tryd.underlying4 _) trodAll_mk0), (trodAll_mk2 (shut_int Tryd.underlying3 w0) (shut_int Tryd.underlying3 w1)), Below.trodVars laidOut hg (by kernel_rfl) hV, hg.frame _, fun h => by cases h⟩

/-! ### One start that fits -/
noncomputable def low : Nat := (World.holding Tryd.prog default ⟨#[], #[], []⟩).heap.size
noncomputable def put (i : Nat) (n : Nat) (h : Array Obj) : Array Obj := h.modify i fun
  | .cells _ t frozen => .cells #[.slice (some ⟨low + i, 0, none⟩) n n] t frozen
  | o => o
noncomputable def laidWorld (os : Os) : World :=
  let w0 := World.holding Tryd.prog os ⟨#[.cells #[.string (⟨#[69, 56]⟩ : ByteArray), .string (⟨#[69, 49, 54]⟩ : ByteArray), .string (⟨#[69, 51, 50]⟩ : ByteArray), .string (⟨#[69, 54, 52]⟩ : ByteArray), .string (⟨#[]⟩ : ByteArray), .string (⟨#[]⟩ : ByteArray), .string (⟨#[]⟩ : ByteArray), .string (⟨#[]⟩ : ByteArray)] 9, .cells #[.string (⟨#[77, 49]⟩ : ByteArray), .string (⟨#[77, 50]⟩ : ByteArray), .string (⟨#[77, 52]⟩ : ByteArray), .string (⟨#[77, 56]⟩ : ByteArray), .string (⟨#[]⟩ : ByteArray), .string (⟨#[77, 70, 56]⟩ : ByteArray), .string (⟨#[77, 70, 52]⟩ : ByteArray), .string (⟨#[77, 70, 50]⟩ : ByteArray)] 9, .cells #[.string (⟨#[84, 85]⟩ : ByteArray), .string (⟨#[84, 65]⟩ : ByteArray)] 9, .cells #[.string (⟨#[77, 85]⟩ : ByteArray), .string (⟨#[77, 65]⟩ : ByteArray)] 9], #[], []⟩
  { w0 with heap := put 3 2 (put 2 2 (put 1 8 (put 0 8 w0.heap))) }
theorem laid_met (os : Os) : laidMet Tryd.prog Rows.fnVTypeTextRow.laid ((laidWorld os).forCall (fun _ _ => 0) ⟨#[], #[.int .i64 0, .int .i64 0], []⟩).memory :=
  laidMet_of_run' 8 (by kernel_rfl) (by kernel_rfl)

set_option maxRecDepth 100000 in
theorem lifted (os : Os) (started : os.Started) (H : Type) (enc : TypeId × Value → H) (F : Stop.Interp) :
    ReturnsInHanded {} Tryd.checked os 3 .any ((OpenSpec.ofChange Rows.fnVTypeTextSpec).preRow enc Tryd.prog Tryd.f3 Rows.fnVTypeTextRow.domain false Rows.fnVTypeTextRow.laid) (((OpenSpec.ofChange Rows.fnVTypeTextSpec).at F).post enc Tryd.prog Tryd.f3 false true false false) := by
  refine returnsInHanded_of_row (C := Tryd.checked) (s := OpenSpec.ofChange Rows.fnVTypeTextSpec) own started (by kernel_rfl) Tryd.func3
    (witness_row_atRef (enc := enc) (C := Tryd.checked) false (laidWorld os) #[.int .i64 0, .int .i64 0] rfl (by kernel_rfl) (by kernel_rfl) (by kernel_rfl)
      (OpenSpec.preRow_of_B rfl 8 (by kernel_rfl) (by kernel_rfl) (laid_met os))) ?_
  intro W base args ds gs before hval hW _ _ _ hL _ _
  exact contract H enc W base args ds gs before hval hW hL

theorem said : Rows.FnVTypeTextSaid :=
  OpenClaim.holds_of_cond 3 Tryd.f3 rfl rfl rfl rfl rfl rfl rfl ⟨rfl, rfl, rfl, rfl, rfl⟩ rfl rfl rfl rfl rfl (by kernel_rfl) Tryd.func3 (by kernel_rfl)
    (of_decide_eq_true (by kernel_rfl)) (by unfold Func.isWrapper; first | (rw [if_pos (by decide +kernel)]; kernel_rfl) | (rw [if_neg (by decide +kernel)]; exact ⟨rfl, rfl⟩))
    (fun os started H enc _ F => by rw [OpenClaim.pre_eq_preRow]; exact lifted os started H enc F)

theorem plain (f : FuncId) (fn : Func) (hf : Tryd.pinned.checked.prog.funcNamed "loop.example/pub-g03336/laws.FnVTypeText" = some f) (hfn : Tryd.pinned.checked.prog.funcs[f]? = some fn) :
    false = Tryd.pinned.checked.prog.looks [] ∧ ∀ (j : Nat) t, fn.params[j]? = some t → Tryd.pinned.checked.prog.wantsStandIn t = false := by
  obtain rfl : f = 3 := Option.some.inj ((show Tryd.prog.funcNamed "loop.example/pub-g03336/laws.FnVTypeText" = some 3 by kernel_rfl).symm.trans hf) |>.symm
  obtain rfl : fn = Tryd.f3 := (Option.some.inj (Tryd.func3.symm.trans hfn)).symm
  refine ⟨by kernel_rfl, fun j t ht => ?_⟩
  rw [Tryd.params3] at ht
  obtain rfl : t = 3 := by simpa using Array.mem_of_getElem? ht
  exact (show Tryd.prog.wantsStandIn 3 = false by kernel_rfl)

/-- THE CARD. -/
theorem proved : Rows.FnVTypeTextCardSaid :=
  Claim7.holds_tied_plain_at .later [] _ _ _ _ said (fun _ h => by cases h) (by kernel_rfl) (fun _ h => by cases h) fnVTypeText_row_tie rfl ⟨rfl, rfl⟩ (by kernel_rfl) rfl plain (by kernel_rfl)
#print axioms proved
end Go.Proofs.YtfmpammdncaaiaaDoor.fnVTypeText
