/-
  PLAIN ARITHMETIC: fields of a word of 32 bits, joined by 'or', are sums. No Go in it, no condition beside the bounds that each law names.
-/
import Derived.Laws.Bits
import Derived.Laws.BitsAllLaws
namespace Go.Ev
open Go

def shr (x : Int) (n : Nat) : Int := x.fdiv (2 ^ n)
def shl (x : Int) (n : Nat) : Int := IntKind.u32.wrap (x * 2 ^ n)
def o (x y : Int) : Int := bits .or .u32 x y
def an (x y : Int) : Int := bits .and .u32 x y

theorem shr_cast (n k : Nat) : shr (n : Int) k = ((n / 2 ^ k : Nat) : Int) := by
  unfold shr
  have hp : (0 : Int) ≤ 2 ^ k := Int.pow_nonneg (by decide)
  rw [Int.fdiv_eq_ediv_of_nonneg _ hp]
  simp
theorem shl_cast (n k : Nat) : shl (n : Int) k = ((n * 2 ^ k % 4294967296 : Nat) : Int) := by
  unfold shl
  rw [IntKind.wrap_u32']
  simp
theorem o_cast (a b : Nat) (ha : a < 4294967296) (hb : b < 4294967296) : o (a : Int) (b : Int) = ((a ||| b : Nat) : Int) := u32_or_nat a b ha hb
theorem an_cast (a b : Nat) (ha : a < 4294967296) (hb : b < 4294967296) : an (a : Int) (b : Int) = ((a &&& b : Nat) : Int) := u32_and_nat a b ha hb

theorem fld (n a b : Nat) (h : a ≤ b) (hb : b ≤ 32) : n * 2 ^ a % 4294967296 / 2 ^ b = n / 2 ^ (b - a) % 2 ^ (32 - b) := by
  have e : 4294967296 = 2 ^ b * 2 ^ (32 - b) := by rw [← Nat.pow_add, show b + (32 - b) = 32 from by omega]
  rw [e, Nat.mod_mul_right_div_self]
  have e2 : 2 ^ b = 2 ^ (b - a) * 2 ^ a := by rw [← Nat.pow_add, show b - a + a = b from by omega]
  rw [show n * 2 ^ a / 2 ^ b = n / 2 ^ (b - a) from by rw [e2, Nat.mul_div_mul_right _ _ (Nat.two_pow_pos a)]]
theorem shl_small (A l k : Nat) (h : l + k ≤ 32) : A % 2 ^ l * 2 ^ k % 4294967296 = A % 2 ^ l * 2 ^ k := by
  refine Nat.mod_eq_of_lt ?_
  have h1 : A % 2 ^ l < 2 ^ l := Nat.mod_lt _ (Nat.two_pow_pos l)
  have h2 : A % 2 ^ l * 2 ^ k < 2 ^ l * 2 ^ k := Nat.mul_lt_mul_of_pos_right h1 (Nat.two_pow_pos k)
  rw [← Nat.pow_add] at h2
  exact Nat.lt_of_lt_of_le h2 (Nat.pow_le_pow_right (by decide) h : 2 ^ (l + k) ≤ 2 ^ 32)
theorem top (n b : Nat) (h : n < 4294967296) (hb : b ≤ 32) : n / 2 ^ b = n / 2 ^ b % 2 ^ (32 - b) := by
  refine (Nat.mod_eq_of_lt ?_).symm
  rw [Nat.div_lt_iff_lt_mul (Nat.two_pow_pos b), ← Nat.pow_add, show 32 - b + b = 32 from by omega]
  exact h
/-- A field that lies where the other number has no bit. -/
theorem or_add (b A i l : Nat) (hA : A < 2 ^ l) (hb : b % 2 ^ (i + l) < 2 ^ i) : b ||| A * 2 ^ i = b + A * 2 ^ i := by
  have hq := Nat.div_add_mod b (2 ^ (i + l))
  generalize hQ : 2 ^ (i + l) * (b / 2 ^ (i + l)) = Q at hq
  generalize hr : b % 2 ^ (i + l) = r at hq hb
  have hQm : Q % 2 ^ (i + l) = 0 := by rw [← hQ]; exact Nat.mul_mod_right _ _
  have hAi : A * 2 ^ i + r < 2 ^ (i + l) := by
    have h1 : (A + 1) * 2 ^ i ≤ 2 ^ l * 2 ^ i := Nat.mul_le_mul_right _ hA
    rw [← Nat.pow_add, Nat.add_comm l i, Nat.add_mul] at h1
    omega
  have e1 : Q ||| r = Q + r := nat_join (i + l) Q r hQm (by omega)
  have e2 : A * 2 ^ i ||| r = A * 2 ^ i + r := nat_join i _ r (Nat.mul_mod_left _ _) hb
  have e3 : Q ||| (A * 2 ^ i + r) = Q + (A * 2 ^ i + r) := nat_join (i + l) Q _ hQm hAi
  rw [← hq, ← e1, Nat.or_assoc, Nat.or_comm r, e2, e3, e1]
  omega

/-! ### What the reference and the code compute, in terms of fields -/

/-- The reference's Field, in the model's words. -/
def fd (x h l : Int) : Int := (IntKind.i64.wrap (x.fdiv (2 ^ l.toNat))).tmod (IntKind.i64.wrap (1 * 2 ^ (IntKind.i64.wrap (IntKind.i64.wrap (h - l) + 1)).toNat))
/-- The reference's part. -/
def pt (x h l a : Int) : Int := IntKind.i64.wrap (fd x h l * 2 ^ a.toNat)
/-- A number of so many bits, of which the highest is its sign. -/
def sgn (W U : Nat) : Int := if 2 ^ (W - 1) ≤ U then (U : Int) - 2 ^ W else U

theorem w64 (z : Int) (h0 : -9223372036854775808 ≤ z) (h1 : z < 9223372036854775808) : IntKind.i64.wrap z = z := by
  rw [IntKind.wrap_i64]; omega
theorem w32 (z : Int) (h0 : -2147483648 ≤ z) (h1 : z < 2147483648) : IntKind.i32.wrap z = z := by
  rw [IntKind.wrap_i32]; omega
theorem w16 (z : Int) (h0 : 0 ≤ z) (h1 : z < 65536) : IntKind.u16.wrap z = z := by
  rw [IntKind.wrap_u16]; omega
theorem wsum (a b : Nat) (h : a + b < 9223372036854775808) : IntKind.i64.wrap ((a : Int) + (b : Int)) = ((a + b : Nat) : Int) := by
  rw [w64 _ (by omega) (by omega)]; simp
theorem two_pow_le {a b : Nat} (h : a ≤ b) : 2 ^ a ≤ 2 ^ b := Nat.pow_le_pow_right (by decide) h

theorem fd_cast (n h l : Nat) (hn : n < 4294967296) (hl : l ≤ h) (hh : h ≤ 31) : fd (n : Int) (h : Int) (l : Int) = ((n / 2 ^ l % 2 ^ (h - l + 1) : Nat) : Int) := by
  unfold fd
  have hp : (0 : Int) ≤ 2 ^ l := Int.pow_nonneg (by decide)
  have e1 : (n : Int).fdiv (2 ^ l) = ((n / 2 ^ l : Nat) : Int) := by rw [Int.fdiv_eq_ediv_of_nonneg _ hp]; simp
  have hle : n / 2 ^ l ≤ n := Nat.div_le_self _ _
  have e2 : IntKind.i64.wrap (IntKind.i64.wrap ((h : Int) - l) + 1) = ((h - l + 1 : Nat) : Int) := by
    rw [w64 ((h : Int) - l) (by omega) (by omega), w64 _ (by omega) (by omega)]; omega
  have hk : 2 ^ (h - l + 1) ≤ 2 ^ 32 := two_pow_le (by omega)
  have e3 : IntKind.i64.wrap (1 * 2 ^ (h - l + 1)) = ((2 ^ (h - l + 1) : Nat) : Int) := by
    have e4 : (1 * 2 ^ (h - l + 1) : Int) = ((2 ^ (h - l + 1) : Nat) : Int) := by simp
    rw [e4]
    generalize 2 ^ (h - l + 1) = q at hk
    exact w64 _ (by omega) (by omega)
  rw [Int.toNat_natCast, e1, e2, Int.toNat_natCast, e3]
  have hq : n / 2 ^ l < 4294967296 := Nat.lt_of_le_of_lt hle hn
  generalize n / 2 ^ l = q at hq
  generalize 2 ^ (h - l + 1) = p
  rw [w64 (q : Int) (by omega) (by omega)]
  exact Int.tmod_eq_emod_of_nonneg (by omega)

theorem pt_cast (n h l a : Nat) (hn : n < 4294967296) (hl : l ≤ h) (hh : h ≤ 31) (ha : h - l + 1 + a ≤ 62) : pt (n : Int) (h : Int) (l : Int) (a : Int) = ((n / 2 ^ l % 2 ^ (h - l + 1) * 2 ^ a : Nat) : Int) := by
  unfold pt
  rw [fd_cast n h l hn hl hh, Int.toNat_natCast]
  have h1 : n / 2 ^ l % 2 ^ (h - l + 1) < 2 ^ (h - l + 1) := Nat.mod_lt _ (Nat.two_pow_pos _)
  have h2 : n / 2 ^ l % 2 ^ (h - l + 1) * 2 ^ a < 2 ^ (h - l + 1) * 2 ^ a := Nat.mul_lt_mul_of_pos_right h1 (Nat.two_pow_pos a)
  rw [← Nat.pow_add] at h2
  have h3 := two_pow_le ha
  have e : ((n / 2 ^ l % 2 ^ (h - l + 1) : Nat) : Int) * 2 ^ a = ((n / 2 ^ l % 2 ^ (h - l + 1) * 2 ^ a : Nat) : Int) := by simp
  rw [e]
  generalize n / 2 ^ l % 2 ^ (h - l + 1) * 2 ^ a = q at h2
  generalize 2 ^ (h - l + 1 + a) = p at h2 h3
  exact w64 _ (by omega) (by omega)

/-- The four forms of a field that is moved to its place. -/
theorem T3 (n a b c : Nat) (h : a ≤ b) (hb : b ≤ 32) (hc : 32 - b + c ≤ 32) : shl (shr (shl (n : Int) a) b) c = ((n / 2 ^ (b - a) % 2 ^ (32 - b) * 2 ^ c : Nat) : Int) := by
  rw [shl_cast, shr_cast, shl_cast, fld n a b h hb, shl_small _ _ _ hc]
theorem T2 (n a b : Nat) (h : a ≤ b) (hb : b ≤ 32) : shr (shl (n : Int) a) b = ((n / 2 ^ (b - a) % 2 ^ (32 - b) * 2 ^ 0 : Nat) : Int) := by
  rw [shl_cast, shr_cast, fld n a b h hb]; simp
theorem S2 (n b c : Nat) (hn : n < 4294967296) (hb : b ≤ 32) (hc : 32 - b + c ≤ 32) : shl (shr (n : Int) b) c = ((n / 2 ^ b % 2 ^ (32 - b) * 2 ^ c : Nat) : Int) := by
  rw [shr_cast, shl_cast]
  conv => lhs; rw [top n b hn hb, shl_small _ _ _ hc]
theorem S1 (n b : Nat) (hn : n < 4294967296) (hb : b ≤ 32) : shr (n : Int) b = ((n / 2 ^ b % 2 ^ (32 - b) * 2 ^ 0 : Nat) : Int) := by
  rw [shr_cast]
  conv => lhs; rw [top n b hn hb]
  simp

theorem o_field (b A i l : Nat) (hA : A < 2 ^ l) (hb : b < 4294967296) (hi : i + l ≤ 32) (hd : b % 2 ^ (i + l) < 2 ^ i) : o (b : Int) ((A * 2 ^ i : Nat) : Int) = ((b + A * 2 ^ i : Nat) : Int) := by
  have h1 : A * 2 ^ i < 2 ^ l * 2 ^ i := Nat.mul_lt_mul_of_pos_right hA (Nat.two_pow_pos i)
  rw [← Nat.pow_add, Nat.add_comm l i] at h1
  have h2 : 2 ^ (i + l) ≤ 2 ^ 32 := two_pow_le hi
  rw [o_cast b _ hb (Nat.lt_of_lt_of_le h1 h2), or_add b A i l hA hd]

/-- A register's number. -/
theorem reg (n b k m base : Nat) (hm : m = 2 ^ k - 1) (hk : k ≤ 5) (hn : n < 4294967296) (hbase : base ≤ 64) :
    IntKind.u16.wrap ((base : Int) + IntKind.u16.wrap (an (shr (n : Int) b) (m : Int))) = ((base + n / 2 ^ b % 2 ^ k : Nat) : Int) := by
  have h1 : n / 2 ^ b < 4294967296 := Nat.lt_of_le_of_lt (Nat.div_le_self _ _) hn
  have h2 : 2 ^ k ≤ 2 ^ 5 := two_pow_le hk
  have h3 : n / 2 ^ b % 2 ^ k < 2 ^ k := Nat.mod_lt _ (Nat.two_pow_pos k)
  rw [shr_cast, an_cast _ m h1 (by omega), hm, Nat.and_two_pow_sub_one_eq_mod]
  generalize n / 2 ^ b % 2 ^ k = q at h3
  generalize 2 ^ k = p at h2 h3
  rw [w16 (q : Int) (by omega) (by omega), w16 _ (by omega) (by omega)]
  simp

theorem two_pow_pred {W : Nat} (hW : 1 ≤ W) : 2 ^ W = 2 * 2 ^ (W - 1) := by
  have : W = W - 1 + 1 := by omega
  rw [this, Nat.pow_succ, Nat.mul_comm]; simp

/-- A number with a sign, as the code computes it: the test, and the number on either way. -/
theorem dec_test (U W : Nat) (hW : 1 ≤ W) (hU : U < 2 ^ W) : (shr (U : Int) (W - 1) == 1) = decide (2 ^ (W - 1) ≤ U) := by
  have hp := two_pow_pred hW
  have hpos : 0 < 2 ^ (W - 1) := Nat.two_pow_pos _
  rw [shr_cast]
  by_cases hs : 2 ^ (W - 1) ≤ U
  · have hq : U / 2 ^ (W - 1) = 1 := by rw [Nat.div_eq_iff hpos]; omega
    rw [hq, decide_eq_true hs]; rfl
  · have hq : U / 2 ^ (W - 1) = 0 := Nat.div_eq_of_lt (by omega)
    rw [hq, decide_eq_false hs]; rfl
theorem dec_neg (U W K : Nat) (hW : 1 ≤ W) (hW2 : W ≤ 31) (hU : U < 2 ^ W) (hK : K + 2 ^ W = 4294967296) (hs : 2 ^ (W - 1) ≤ U) :
    IntKind.i32.wrap (o (U : Int) (K : Int)) = sgn W U := by
  have hp := two_pow_pred hW
  have h31 : 2 ^ W ≤ 2 ^ 31 := two_pow_le hW2
  have hKe : K = (2 ^ (32 - W) - 1) * 2 ^ W := by
    have : 2 ^ (32 - W) * 2 ^ W = 4294967296 := by rw [← Nat.pow_add, show 32 - W + W = 32 from by omega]
    rw [Nat.sub_mul, this]; omega
  have hor : U ||| K = U + K := by
    rw [hKe]
    refine or_add U _ W (32 - W) (Nat.sub_lt (Nat.two_pow_pos _) (by decide)) ?_
    have : 2 ^ W ≤ 2 ^ (W + (32 - W)) := two_pow_le (by omega)
    rw [Nat.mod_eq_of_lt (Nat.lt_of_lt_of_le hU this)]
    exact hU
  have e2 : ((2 : Int) ^ W) = ((2 ^ W : Nat) : Int) := by simp
  rw [o_cast U K (by omega) (by omega), hor]
  unfold sgn
  rw [e2, if_pos hs, IntKind.wrap_i32]
  generalize 2 ^ W = p at *
  omega
theorem dec_pos (U W : Nat) (hW : 1 ≤ W) (hW2 : W ≤ 31) (_hU : U < 2 ^ W) (hs : ¬ 2 ^ (W - 1) ≤ U) : IntKind.i32.wrap (U : Int) = sgn W U := by
  have hp := two_pow_pred hW
  have h31 : 2 ^ W ≤ 2 ^ 31 := two_pow_le hW2
  unfold sgn
  rw [if_neg hs, w32 _ (by omega) (by omega)]

/-- .. as the reference computes it. -/
theorem spec_lim (W : Nat) (hW : 1 ≤ W) (hW2 : W ≤ 31) : IntKind.i64.wrap (1 * 2 ^ (IntKind.i64.wrap ((W : Int) - 1)).toNat) = ((2 ^ (W - 1) : Nat) : Int) := by
  have h30 : 2 ^ (W - 1) ≤ 2 ^ 31 := two_pow_le (by omega)
  have e1 : IntKind.i64.wrap ((W : Int) - 1) = ((W - 1 : Nat) : Int) := by rw [w64 _ (by omega) (by omega)]; omega
  have e2 : (1 * 2 ^ (W - 1) : Int) = ((2 ^ (W - 1) : Nat) : Int) := by simp
  rw [e1, Int.toNat_natCast, e2]
  generalize 2 ^ (W - 1) = p1 at *
  exact w64 _ (by omega) (by omega)
theorem spec_test (U W : Nat) (hW : 1 ≤ W) (hW2 : W ≤ 31) : decide ((U : Int) ≥ IntKind.i64.wrap (1 * 2 ^ (IntKind.i64.wrap ((W : Int) - 1)).toNat)) = decide (2 ^ (W - 1) ≤ U) := by
  rw [spec_lim W hW hW2]
  exact decide_eq_decide.2 (by omega)
theorem spec_neg (U W : Nat) (hW2 : W ≤ 31) (_hU : U < 2 ^ W) (hs : 2 ^ (W - 1) ≤ U) : IntKind.i64.wrap ((U : Int) - IntKind.i64.wrap (1 * 2 ^ (W : Int).toNat)) = sgn W U := by
  have h31 : 2 ^ W ≤ 2 ^ 31 := two_pow_le hW2
  have e3 : (1 * 2 ^ W : Int) = ((2 ^ W : Nat) : Int) := by simp
  have e4 : ((2 : Int) ^ W) = ((2 ^ W : Nat) : Int) := by simp
  unfold sgn
  rw [Int.toNat_natCast, e3, if_pos hs, e4]
  generalize 2 ^ W = p2 at *
  rw [w64 (p2 : Int) (by omega) (by omega), w64 _ (by omega) (by omega)]
theorem spec_pos (U W : Nat) (hs : ¬ 2 ^ (W - 1) ≤ U) : (U : Int) = sgn W U := by unfold sgn; rw [if_neg hs]

theorem sgn_lo (U W : Nat) (hW : 1 ≤ W) (hW2 : W ≤ 31) (hU : U < 2 ^ W) : -2147483648 ≤ sgn W U ∧ sgn W U < 2147483648 := by
  have h31 : 2 ^ W ≤ 2 ^ 31 := two_pow_le hW2
  have hp := two_pow_pred hW
  have e4 : ((2 : Int) ^ W) = ((2 ^ W : Nat) : Int) := by simp
  unfold sgn
  rw [e4]
  split <;> omega
theorem sgn_zero (U W : Nat) (hU : U < 2 ^ W) : sgn W U = 0 ↔ U = 0 := by
  have e4 : ((2 : Int) ^ W) = ((2 ^ W : Nat) : Int) := by simp
  have hpos : 0 < 2 ^ (W - 1) := Nat.two_pow_pos _
  unfold sgn
  rw [e4]
  split <;> omega

end Go.Ev
