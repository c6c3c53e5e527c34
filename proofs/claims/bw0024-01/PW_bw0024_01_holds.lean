import PyProof.Rows.All
import Wide.All
import OpenK.AllK
import Wide.FinOn
import PySem.Challenge.RW_bw0024_01
open PySem PySem.W PyProof.Rows
set_option Elab.async false
set_option linter.unusedVariables false
set_option linter.unusedSectionVars false
namespace Mine
set_option maxRecDepth 100000 in
set_option maxHeartbeats 8000000 in
open_top hd for PySem.Challenge.rw_bw0024_01
end Mine
open PySem.Spec PySem.Calls
set_option maxRecDepth 100000
namespace Mine

abbrev Q4 : Type := Int × Int × Int × Int

/-- the bits of a number -/
def bl (n : Nat) : Nat := if n = 0 then 0 else n.log2 + 1
/-- the noughts at its end, in twos -/
noncomputable def tz (n : Nat) : Nat := if h : n = 0 then 0 else if n % 2 = 0 then tz (n / 2) + 1 else 0
termination_by n
decreasing_by omega

theorem tz_odd {n : Nat} (h : n % 2 = 1) : tz n = 0 := by
  unfold tz
  rw [dif_neg (by omega), if_neg (by omega)]
theorem tz_even {n : Nat} (h0 : n ≠ 0) (h : n % 2 = 0) : tz n = tz (n / 2) + 1 := by
  rw [tz, dif_neg h0, if_pos h]
theorem tz_zero : tz 0 = 0 := by rw [tz]; rfl

/-- a number in twos, told with an odd whole number -/
noncomputable def toldN (side : Int) (n : Nat) (p : Int) : Q4 :=
  if n = 0 then (0, 0, 0, 0) else (side, ((n / 2 ^ tz n : Nat) : Int), p + (tz n : Int), (bl (n / 2 ^ tz n) : Int))

theorem toldN_zero (side p : Int) : toldN side 0 p = (0, 0, 0, 0) := by unfold toldN; rw [if_pos rfl]
theorem toldN_odd {side p : Int} {n : Nat} (h : n % 2 = 1) : toldN side n p = (side, (n : Int), p, (bl n : Int)) := by
  unfold toldN
  rw [if_neg (by omega), tz_odd h]
  simp
theorem toldN_half {side p : Int} {n : Nat} (h0 : n ≠ 0) (h : n % 2 = 0) : toldN side (n / 2) (p + 1) = toldN side n p := by
  unfold toldN
  rw [if_neg (by omega), if_neg h0, tz_even h0 h, Nat.pow_succ, Nat.mul_comm, ← Nat.div_div_eq_div_mul]
  simp only [Prod.mk.injEq, true_and, and_true]
  omega

theorem bits_eq (x : Int) : (Builtin.Int.intBits x : Nat) = bl x.natAbs := by
  unfold Builtin.Int.intBits bl
  by_cases h : x = 0
  · subst h; rfl
  · rw [if_neg (by simpa using h), if_neg (by omega)]

noncomputable def told (w p : Int) : Q4 := toldN (if w < 0 then 1 else 0) w.natAbs p
end Mine
namespace Mine

theorem low_bit : ∀ k n : Nat, n ≤ k → 0 < n → n - (n &&& (n - 1)) = 2 ^ tz n := by
  intro k
  induction k with
  | zero => intro n h h0; omega
  | succ k ih =>
    intro n h h0
    have hd : (n &&& (n - 1)) / 2 = n / 2 &&& (n - 1) / 2 := Nat.and_div_two
    have hm : (n &&& (n - 1)) % 2 = (n % 2) &&& ((n - 1) % 2) := by
      have := @Nat.and_mod_two_pow n (n - 1) 1
      simpa using this
    rcases Nat.mod_two_eq_zero_or_one n with he | ho
    · have e1 : (n - 1) / 2 = n / 2 - 1 := by omega
      have i := ih (n / 2) (by omega) (by omega)
      rw [e1] at hd
      rw [he] at hm
      simp only [Nat.zero_and] at hm
      rw [tz_even (by omega) he, Nat.pow_succ]
      have hle : n / 2 &&& (n / 2 - 1) ≤ n / 2 := Nat.and_le_left
      omega
    · have e1 : (n - 1) / 2 = n / 2 := by omega
      have e2 : (n - 1) % 2 = 0 := by omega
      rw [e1, Nat.and_self] at hd
      rw [e2] at hm
      simp only [Nat.and_zero] at hm
      rw [tz_odd ho]
      omega

theorem log2_two_pow (k : Nat) : (2 ^ k : Nat).log2 = k := Nat.log2_two_pow

theorem trailing_eq {n : Int} (h : 0 < n) : (Builtin.Int.intBits (Builtin.bitAnd n (-n)) : Int) - 1 = (tz n.natAbs : Int) := by
  have e : Builtin.bitAnd n (-n) = ((2 ^ tz n.natAbs : Nat) : Int) := by
    unfold Builtin.bitAnd
    have a : decide (0 ≤ n) = true := by simp; omega
    have b : decide (0 ≤ -n) = false := by simp; omega
    rw [a, b]
    simp only
    have c : (Builtin.bitNot (-n)).toNat = n.natAbs - 1 := by
      unfold Builtin.bitNot
      omega
    have d : n.toNat = n.natAbs := by omega
    rw [c, d, ← low_bit n.natAbs n.natAbs (Nat.le_refl _) (by omega)]
    have hle : n.natAbs &&& (n.natAbs - 1) ≤ n.natAbs := Nat.and_le_left
    omega
  rw [e, bits_eq, Int.natAbs_natCast]
  unfold bl
  rw [if_neg (by have := Nat.two_pow_pos (tz n.natAbs); omega), log2_two_pow]
  omega
end Mine
namespace Mine

/-- the five ways of rounding -/
inductive Way where
  | n | f | c | u | d
def Way.str : Way → PySem.Str
  | .n => Str.ofString "n"
  | .f => Str.ofString "f"
  | .c => Str.ofString "c"
  | .u => Str.ofString "u"
  | .d => Str.ofString "d"

def rup (wy : Way) (side : Int) (low rest unit : Nat) : Bool := match wy with
  | .n => decide (unit < 2 * rest) || (decide (2 * rest = unit) && decide (low % 2 = 1))
  | .f => decide (side = 1)
  | .c => decide (side = 0)
  | .u => true
  | .d => false
def rlow (wy : Way) (side : Int) (n cut : Nat) : Nat :=
  if 0 < n % 2 ^ cut ∧ rup wy side (n / 2 ^ cut) (n % 2 ^ cut) (2 ^ cut) = true then n / 2 ^ cut + 1 else n / 2 ^ cut
noncomputable def roundedN (side : Int) (n : Nat) (p : Int) (most : Int) (wy : Way) : Q4 :=
  if (bl n : Int) ≤ most then toldN side n p else toldN side (rlow wy side n ((bl n : Int) - most).toNat) (p + ((bl n : Int) - most))

theorem bl_lo {n : Nat} (h : 0 < n) : 2 ^ (bl n - 1) ≤ n := by
  unfold bl
  rw [if_neg (by omega)]
  exact Nat.log2_self_le (by omega)
theorem bl_hi (n : Nat) : n < 2 ^ bl n := by
  unfold bl
  by_cases h : n = 0
  · rw [if_pos h, h]; decide
  · rw [if_neg h]
    exact Nat.lt_log2_self
theorem bl_pos {n : Nat} (h : 0 < n) : 0 < bl n := by
  unfold bl
  rw [if_neg (by omega)]
  omega
theorem bl_eq {n b : Nat} (h1 : 2 ^ b ≤ n) (h2 : n < 2 ^ (b + 1)) : bl n = b + 1 := by
  have h0 : 0 < n := Nat.lt_of_lt_of_le (Nat.two_pow_pos b) h1
  have a := bl_lo h0
  have c := bl_hi n
  have d := bl_pos h0
  have e : bl n - 1 < b + 1 := (Nat.pow_lt_pow_iff_right (a := 2) (by omega)).mp (Nat.lt_of_le_of_lt a h2)
  have f : b < bl n := (Nat.pow_lt_pow_iff_right (a := 2) (by omega)).mp (Nat.lt_of_le_of_lt h1 c)
  omega

theorem fdiv_nat {x : Int} (h : 0 ≤ x) (d : Nat) : x.fdiv (2 ^ d) = ((x.natAbs / 2 ^ d : Nat) : Int) := by
  rw [Int.fdiv_eq_ediv_of_nonneg _ (Int.le_of_lt (Int.pow_pos (by decide)))]
  have e : x = (x.natAbs : Int) := by omega
  rw [e]
  simp only [Int.natAbs_natCast]
  norm_cast
theorem and1 {x : Nat} : Builtin.bitAnd (x : Int) 1 = ((x % 2 : Nat) : Int) := by
  rw [bitAnd_m1]
  norm_cast
theorem andNat (x y : Nat) : Builtin.bitAnd (x : Int) (y : Int) = ((x &&& y : Nat) : Int) := by
  unfold Builtin.bitAnd
  have a : decide (0 ≤ (x : Int)) = true := by simp
  have b : decide (0 ≤ (y : Int)) = true := by simp
  rw [a, b]
  rfl
theorem and2 {x : Nat} : Builtin.bitAnd (x : Int) 2 = 0 ↔ x / 2 % 2 = 0 := by
  have h := andNat x 2
  rw [show ((2 : Nat) : Int) = 2 from rfl] at h
  rw [h]
  have hd : (x &&& 2) / 2 = x / 2 &&& 2 / 2 := Nat.and_div_two
  have hm : (x &&& 2) % 2 = (x % 2) &&& (2 % 2) := by
    have := @Nat.and_mod_two_pow x 2 1
    simpa using this
  rw [show (2 / 2 : Nat) = 1 from rfl, Nat.and_one_is_mod] at hd
  rw [show (2 % 2 : Nat) = 0 from rfl, Nat.and_zero] at hm
  omega
theorem andMask {x d : Nat} : Builtin.bitAnd (x : Int) (1 * 2 ^ d - 1) = ((x % 2 ^ d : Nat) : Int) := by
  have e : (1 * 2 ^ d - 1 : Int) = ((2 ^ d - 1 : Nat) : Int) := by
    have := Nat.two_pow_pos d
    rw [Int.one_mul]
    have e2 : ((2 ^ d : Nat) : Int) = 2 ^ d := by norm_cast
    omega
  rw [e, andNat, Nat.and_two_pow_sub_one_eq_mod]

section
variable {sign man exp bc prec cut : Int}

theorem rlow_n {sign : Int} {m j : Nat} : rlow .n sign m (j + 1) =
    if (m / 2 ^ j) % 2 = 1 ∧ ((m / 2 ^ j) / 2 % 2 = 1 ∨ m % 2 ^ j ≠ 0) then (m / 2 ^ j) / 2 + 1 else (m / 2 ^ j) / 2 := by
  unfold rlow rup
  have hp := Nat.two_pow_pos j
  have e1 : m / 2 ^ (j + 1) = m / 2 ^ j / 2 := by rw [Nat.pow_succ, Nat.div_div_eq_div_mul]
  have e2 : m % 2 ^ (j + 1) = m % 2 ^ j + 2 ^ j * (m / 2 ^ j % 2) := by rw [Nat.pow_succ, Nat.mod_mul]
  have e3 : m % 2 ^ j < 2 ^ j := Nat.mod_lt _ hp
  rw [e1, e2, Nat.pow_succ]
  generalize m / 2 ^ j = t at *
  generalize m % 2 ^ j = r at *
  generalize 2 ^ j = u at *
  simp only [Bool.or_eq_true, Bool.and_eq_true, decide_eq_true_eq]
  rcases Nat.mod_two_eq_zero_or_one t with h | h
  · rw [h]
    rw [if_neg (by omega), if_neg (by omega)]
  · rw [h]
    by_cases hc : t / 2 % 2 = 1 ∨ r ≠ 0
    · rw [if_pos (by omega), if_pos ⟨rfl, hc⟩]
    · rw [if_neg (by omega), if_neg (by omega)]

theorem rlow_up {wy : Way} {sign : Int} {m k : Nat} (h : ∀ l r u, rup wy sign l r u = true) : ((rlow wy sign m k : Nat) : Int) = -((-(m : Int)).fdiv (2 ^ k)) := by
  unfold rlow
  have hp := Nat.two_pow_pos k
  rw [Int.fdiv_eq_ediv_of_nonneg _ (Int.le_of_lt (Int.pow_pos (by decide))), show ((2 : Int) ^ k) = ((2 ^ k : Nat) : Int) by norm_cast]
  generalize 2 ^ k = d at *
  rw [Int.neg_ediv]
  by_cases hm : m % d = 0
  · rw [if_neg (by omega), if_pos (by exact_mod_cast Nat.dvd_of_mod_eq_zero hm)]
    norm_cast
    omega
  · rw [if_pos ⟨by omega, h _ _ _⟩, if_neg (by intro hd; exact hm (Nat.mod_eq_zero_of_dvd (by exact_mod_cast hd)))]
    rw [Int.sign_eq_one_of_pos (by omega)]
    norm_cast
    omega
theorem rlow_dn {wy : Way} {sign : Int} {m k : Nat} (h : ∀ l r u, rup wy sign l r u = false) : rlow wy sign m k = m / 2 ^ k := by
  unfold rlow
  rw [if_neg (by rw [h]; simp)]

theorem rlow_bounds {wy : Way} {m k p : Nat} (h : bl m = k + (p + 1)) : 2 ^ p ≤ rlow wy sign m k ∧ rlow wy sign m k ≤ 2 ^ (p + 1) := by
  have h0 : 0 < m := by
    rcases Nat.eq_zero_or_pos m with e | e
    · rw [e] at h
      have : bl 0 = 0 := rfl
      omega
    · exact e
  have a := bl_lo h0
  have b := bl_hi m
  rw [h] at a b
  rw [show k + (p + 1) - 1 = p + k by omega, Nat.pow_add] at a
  rw [show k + (p + 1) = (p + 1) + k by omega, Nat.pow_add] at b
  have c : 2 ^ p ≤ m / 2 ^ k := (Nat.le_div_iff_mul_le (Nat.two_pow_pos k)).mpr a
  have d : m / 2 ^ k < 2 ^ (p + 1) := (Nat.div_lt_iff_lt_mul (Nat.two_pow_pos k)).mpr b
  unfold rlow
  split <;> omega
end
end Mine
namespace Mine

def Way.tab : Way → List Int
  | .n => [0, 0]
  | .f => [1, 0]
  | .c => [0, 1]
  | .u => [0, 0]
  | .d => [1, 1]

def Way.other : Way → Bool
  | .n => false
  | _ => true
def Good (sign R e b : Int) (q : Q4) : Prop := 0 < R ∧ ((bl R.natAbs : Int) = b ∨ R.natAbs = 2 ^ b.toNat) ∧ q = toldN sign R.natAbs e

section
variable {sign man exp bc prec R e b : Int} {q : Q4}

theorem odd_of (h0 : 0 < R) (h : Builtin.bitAnd R 1 ≠ 0) : R.natAbs % 2 = 1 := by
  have e : R = ((R.natAbs : Nat) : Int) := by omega
  rw [e, and1] at h
  omega
theorem even_of (h0 : 0 < R) (h : Builtin.bitAnd R 1 = 0) : R.natAbs % 2 = 0 := by
  have e : R = ((R.natAbs : Nat) : Int) := by omega
  rw [e, and1] at h
  omega

theorem tz_le : ∀ k n : Nat, n ≤ k → 0 < n → 2 ^ tz n ≤ n ∧ n % 2 ^ tz n = 0 := by
  intro k
  induction k with
  | zero => intro n h h0; omega
  | succ k ih =>
    intro n h h0
    rcases Nat.mod_two_eq_zero_or_one n with he | ho
    · have i := ih (n / 2) (by omega) (by omega)
      rw [tz_even (by omega) he, Nat.pow_succ, Nat.mul_comm, Nat.mod_mul]
      omega
    · rw [tz_odd ho]
      omega
theorem bl_div {n k : Nat} (h : 2 ^ k ≤ n) : bl (n / 2 ^ k) + k = bl n := by
  have h0 : 0 < n := Nat.lt_of_lt_of_le (Nat.two_pow_pos k) h
  have hq : 0 < n / 2 ^ k := Nat.div_pos h (Nat.two_pow_pos k)
  have a := bl_lo hq
  have c := bl_hi (n / 2 ^ k)
  have p := bl_pos hq
  have a' := (Nat.le_div_iff_mul_le (Nat.two_pow_pos k)).mp a
  have c' := (Nat.div_lt_iff_lt_mul (Nat.two_pow_pos k)).mp c
  rw [← Nat.pow_add] at a' c'
  have := bl_eq (n := n) (b := bl (n / 2 ^ k) - 1 + k) a' (by rw [show bl (n / 2 ^ k) - 1 + k + 1 = bl (n / 2 ^ k) + k by omega]; exact c')
  omega
theorem tz_two_pow (k : Nat) : tz (2 ^ k) = k := by
  induction k with
  | zero => exact tz_odd rfl
  | succ k ih =>
    have := Nat.two_pow_pos k
    rw [tz_even (by rw [Nat.pow_succ]; omega) (by rw [Nat.pow_succ]; omega), Nat.pow_succ, Nat.mul_div_cancel _ (by decide), ih]

theorem fin1 (G : Good sign R e b q) (h : Builtin.bitAnd R 1 ≠ 0) (h1 : R = 1) : q = (sign, R, e, 1) := by
  obtain ⟨g1, g2, g3⟩ := G
  subst h1
  rw [g3, toldN_odd (by decide)]
  rfl
theorem fin2 (G : Good sign R e b q) (h : Builtin.bitAnd R 1 ≠ 0) (h1 : R ≠ 1) : q = (sign, R, e, b) := by
  obtain ⟨g1, g2, g3⟩ := G
  have ho := odd_of g1 h
  rw [g3, toldN_odd ho]
  rcases g2 with g2 | g2
  · rw [g2]
    simp only [Prod.mk.injEq, true_and, and_true]
    omega
  · exfalso
    rcases hk : b.toNat with _ | k
    · rw [hk] at g2; omega
    · rw [hk, Nat.pow_succ] at g2; omega
theorem fin3 (G : Good sign R e b q) (hz : Builtin.bitAnd R 1 = 0) (h1 : R.fdiv (2 ^ ((tz R.natAbs : Nat) : Int).toNat) = 1) : q = (sign, R.fdiv (2 ^ ((tz R.natAbs : Nat) : Int).toNat), e + (tz R.natAbs : Int), 1) := by
  obtain ⟨g1, g2, g3⟩ := G
  rw [Int.toNat_natCast, fdiv_nat (by omega)] at h1 ⊢
  have h2 : R.natAbs / 2 ^ tz R.natAbs = 1 := by omega
  rw [g3]
  unfold toldN
  rw [if_neg (by omega), h2]
  rfl
theorem fin4 (G : Good sign R e b q) (hz : Builtin.bitAnd R 1 = 0) (h1 : R.fdiv (2 ^ ((tz R.natAbs : Nat) : Int).toNat) ≠ 1) : q = (sign, R.fdiv (2 ^ ((tz R.natAbs : Nat) : Int).toNat), e + (tz R.natAbs : Int), b - (tz R.natAbs : Int)) := by
  obtain ⟨g1, g2, g3⟩ := G
  rw [Int.toNat_natCast, fdiv_nat (by omega)] at h1 ⊢
  have ht := (tz_le _ R.natAbs (Nat.le_refl _) (by omega)).1
  have hd := bl_div ht
  rw [g3]
  unfold toldN
  rw [if_neg (by omega)]
  simp only [Prod.mk.injEq, true_and]
  rcases g2 with g2 | g2
  · omega
  · exfalso
    apply h1
    rw [g2, tz_two_pow, Nat.div_self (Nat.two_pow_pos _)]
    rfl

theorem big {wy : Way} (hm : 0 ≤ man) (h0 : man ≠ 0) (hp : man = 0 ∨ 1 ≤ prec) (hb : bc = (bl man.natAbs : Int)) (hn : 0 < bc - prec) (hR : R = ((rlow wy sign man.natAbs (bc - prec).toNat : Nat) : Int)) :
    Good sign R (exp + (bc - prec)) prec (roundedN sign man.natAbs exp prec wy) := by
  have hk : bl man.natAbs = (bc - prec).toNat + ((prec.toNat - 1) + 1) := by omega
  obtain ⟨b1, b2⟩ := rlow_bounds (wy := wy) (sign := sign) hk
  have hpp := Nat.two_pow_pos (prec.toNat - 1)
  rw [show prec.toNat - 1 + 1 = prec.toNat by omega] at b2
  have e : R.natAbs = rlow wy sign man.natAbs (bc - prec).toNat := by omega
  refine ⟨by omega, ?_, ?_⟩
  · rw [e]
    rcases Nat.lt_or_eq_of_le b2 with l | l
    · left
      have := bl_eq b1 (by rw [show prec.toNat - 1 + 1 = prec.toNat by omega]; exact l)
      omega
    · exact .inr l
  · unfold roundedN
    rw [if_neg (by omega), e, hb]
theorem small {wy : Way} (hm : 0 ≤ man) (h0 : man ≠ 0) (hb : bc = (bl man.natAbs : Int)) (hn : ¬ 0 < bc - prec) : Good sign man exp bc (roundedN sign man.natAbs exp prec wy) := by
  refine ⟨by omega, .inl hb.symm, ?_⟩
  unfold roundedN
  rw [if_pos (by omega)]
theorem low_d (hm : 0 ≤ man) : man.fdiv (2 ^ (bc - prec).toNat) = ((rlow .d sign man.natAbs (bc - prec).toNat : Nat) : Int) := by
  rw [fdiv_nat hm, rlow_dn]
  intro _ _ _
  rfl
theorem low_u (hm : 0 ≤ man) : -((-man).fdiv (2 ^ (bc - prec).toNat)) = ((rlow .u sign man.natAbs (bc - prec).toNat : Nat) : Int) := by
  have e : man = ((man.natAbs : Nat) : Int) := by omega
  rw [rlow_up]
  · rw [← e]
  · intro _ _ _
    rfl
theorem nought {wy : Way} (h0 : man = 0) (hp : 0 ≤ prec) : roundedN sign man.natAbs exp prec wy = (0, 0, 0, 0) := by
  subst h0
  unfold roundedN
  have : bl (0 : Int).natAbs = 0 := rfl
  rw [if_pos (by rw [this]; exact hp)]
  exact toldN_zero _ _

variable (hm : 0 ≤ man) (h0 : man ≠ 0) (hp : man = 0 ∨ 1 ≤ prec) (hb : bc = (bl man.natAbs : Int)) (hn : 0 < bc - prec)
include hm h0 hp hb hn

theorem half_facts : ∃ j : Nat, (bc - prec).toNat = j + 1 ∧ (bc - prec - 1).toNat = j ∧ man.fdiv (2 ^ (bc - prec - 1).toNat) = ((man.natAbs / 2 ^ j : Nat) : Int) := by
  refine ⟨(bc - prec - 1).toNat, by omega, rfl, ?_⟩
  rw [fdiv_nat hm]
theorem two_of (x : Nat) : ((x : Int)).fdiv (2 ^ Int.toNat 1) = ((x / 2 : Nat) : Int) := by
  rw [show Int.toNat 1 = 1 from rfl, fdiv_nat (by omega)]
  rfl

theorem g_n1 (c1 : Builtin.bitAnd (man.fdiv (2 ^ (bc - prec - 1).toNat)) 1 ≠ 0) (c2 : Builtin.bitAnd (man.fdiv (2 ^ (bc - prec - 1).toNat)) 2 ≠ 0) :
    Good sign ((man.fdiv (2 ^ (bc - prec - 1).toNat)).fdiv (2 ^ Int.toNat 1) + 1) (exp + (bc - prec)) prec (roundedN sign man.natAbs exp prec .n) := by
  refine big hm h0 hp hb hn ?_
  obtain ⟨j, e1, e2, e3⟩ := half_facts hm h0 hp hb hn
  rw [e3, and1] at c1
  rw [e3, ne_eq, and2] at c2
  rw [e3, two_of hm h0 hp hb hn, e1, rlow_n, if_pos ⟨by omega, .inl (by omega)⟩]
  norm_cast
theorem g_n2 (c1 : Builtin.bitAnd (man.fdiv (2 ^ (bc - prec - 1).toNat)) 1 ≠ 0) (c3 : Builtin.bitAnd man (1 * 2 ^ (bc - prec - 1).toNat - 1) ≠ 0) :
    Good sign ((man.fdiv (2 ^ (bc - prec - 1).toNat)).fdiv (2 ^ Int.toNat 1) + 1) (exp + (bc - prec)) prec (roundedN sign man.natAbs exp prec .n) := by
  refine big hm h0 hp hb hn ?_
  obtain ⟨j, e1, e2, e3⟩ := half_facts hm h0 hp hb hn
  rw [e3, and1] at c1
  rw [e2, show man = ((man.natAbs : Nat) : Int) by omega, andMask] at c3
  rw [e3, two_of hm h0 hp hb hn, e1, rlow_n, if_pos ⟨by omega, .inr (by omega)⟩]
  norm_cast
theorem g_n3 (c2 : Builtin.bitAnd (man.fdiv (2 ^ (bc - prec - 1).toNat)) 2 = 0) (c3 : Builtin.bitAnd man (1 * 2 ^ (bc - prec - 1).toNat - 1) = 0) :
    Good sign ((man.fdiv (2 ^ (bc - prec - 1).toNat)).fdiv (2 ^ Int.toNat 1)) (exp + (bc - prec)) prec (roundedN sign man.natAbs exp prec .n) := by
  refine big hm h0 hp hb hn ?_
  obtain ⟨j, e1, e2, e3⟩ := half_facts hm h0 hp hb hn
  rw [e3, and2] at c2
  rw [e2, show man = ((man.natAbs : Nat) : Int) by omega, andMask] at c3
  rw [e3, two_of hm h0 hp hb hn, e1, rlow_n, if_neg (by omega)]
theorem g_n4 (c1 : Builtin.bitAnd (man.fdiv (2 ^ (bc - prec - 1).toNat)) 1 = 0) :
    Good sign ((man.fdiv (2 ^ (bc - prec - 1).toNat)).fdiv (2 ^ Int.toNat 1)) (exp + (bc - prec)) prec (roundedN sign man.natAbs exp prec .n) := by
  refine big hm h0 hp hb hn ?_
  obtain ⟨j, e1, e2, e3⟩ := half_facts hm h0 hp hb hn
  rw [e3, and1] at c1
  rw [e3, two_of hm h0 hp hb hn, e1, rlow_n, if_neg (by omega)]
theorem g_dn {wy : Way} {l : List Int} (hs : sign = 0 ∨ sign = 1) (c : l.getD sign.toNat 0 ≠ 0) (hl : l = wy.tab) (hw : wy.other = true) :
    Good sign (man.fdiv (2 ^ (bc - prec).toNat)) (exp + (bc - prec)) prec (roundedN sign man.natAbs exp prec wy) := by
  refine big hm h0 hp hb hn ?_
  subst hl
  rw [fdiv_nat hm]
  cases wy
  · cases hw
  · rcases hs with rfl | rfl
    · rw [rlow_dn]
      intro _ _ _
      rfl
    · exact absurd rfl c
  · rcases hs with rfl | rfl
    · exact absurd rfl c
    · rw [rlow_dn]
      intro _ _ _
      rfl
  · rcases hs with rfl | rfl <;> exact absurd rfl c
  · rw [rlow_dn]
    intro _ _ _
    rfl
theorem g_up {wy : Way} {l : List Int} (hs : sign = 0 ∨ sign = 1) (c : l.getD sign.toNat 0 = 0) (hl : l = wy.tab) (hw : wy.other = true) :
    Good sign (-((-man).fdiv (2 ^ (bc - prec).toNat))) (exp + (bc - prec)) prec (roundedN sign man.natAbs exp prec wy) := by
  refine big hm h0 hp hb hn ?_
  subst hl
  have e : man = ((man.natAbs : Nat) : Int) := by omega
  rw [rlow_up]
  · rw [← e]
  · intro l r u
    cases wy
    · cases hw
    · rcases hs with rfl | rfl
      · exact absurd c (by decide)
      · rfl
    · rcases hs with rfl | rfl
      · rfl
      · exact absurd c (by decide)
    · rfl
    · rcases hs with rfl | rfl <;> exact absurd c (by decide)
omit hp hb hn in
theorem dummy_z : 0 ≤ man := hm
theorem p_n1 (c1 : Builtin.bitAnd (man.fdiv (2 ^ (bc - prec - 1).toNat)) 1 ≠ 0) (c2 : Builtin.bitAnd (man.fdiv (2 ^ (bc - prec - 1).toNat)) 2 ≠ 0) : 0 < (man.fdiv (2 ^ (bc - prec - 1).toNat)).fdiv (2 ^ Int.toNat 1) + 1 := (g_n1 (sign := 0) (exp := 0) hm h0 hp hb hn c1 c2).1
theorem p_n2 (c1 : Builtin.bitAnd (man.fdiv (2 ^ (bc - prec - 1).toNat)) 1 ≠ 0) (c3 : Builtin.bitAnd man (1 * 2 ^ (bc - prec - 1).toNat - 1) ≠ 0) : 0 < (man.fdiv (2 ^ (bc - prec - 1).toNat)).fdiv (2 ^ Int.toNat 1) + 1 := (g_n2 (sign := 0) (exp := 0) hm h0 hp hb hn c1 c3).1
theorem p_n3 (c2 : Builtin.bitAnd (man.fdiv (2 ^ (bc - prec - 1).toNat)) 2 = 0) (c3 : Builtin.bitAnd man (1 * 2 ^ (bc - prec - 1).toNat - 1) = 0) : 0 < (man.fdiv (2 ^ (bc - prec - 1).toNat)).fdiv (2 ^ Int.toNat 1) := (g_n3 (sign := 0) (exp := 0) hm h0 hp hb hn c2 c3).1
theorem p_n4 (c1 : Builtin.bitAnd (man.fdiv (2 ^ (bc - prec - 1).toNat)) 1 = 0) : 0 < (man.fdiv (2 ^ (bc - prec - 1).toNat)).fdiv (2 ^ Int.toNat 1) := (g_n4 (sign := 0) (exp := 0) hm h0 hp hb hn c1).1
theorem p_dn : 0 < man.fdiv (2 ^ (bc - prec).toNat) := (big (wy := .d) (sign := 0) (exp := 0) hm h0 hp hb hn (low_d hm)).1
theorem p_up : 0 < -((-man).fdiv (2 ^ (bc - prec).toNat)) := (big (wy := .u) (sign := 0) (exp := 0) hm h0 hp hb hn (low_u hm)).1
end

def Good' (sign R e b : Int) (q : Q4) : Prop := 0 < R ∧ (bl R.natAbs : Int) = b ∧ q = toldN sign R.natAbs e
section
variable {sign R e b : Int} {q : Q4}
theorem t_odd (G : Good' sign R e b q) (h : Builtin.bitAnd R 1 ≠ 0) : q = (sign, R, e, b) := by
  obtain ⟨g1, g2, g3⟩ := G
  rw [g3, toldN_odd (odd_of g1 h), g2]
  simp only [Prod.mk.injEq, true_and, and_true]
  omega
theorem t_even (G : Good' sign R e b q) (hz : Builtin.bitAnd R 1 = 0) : q = (sign, R.fdiv (2 ^ ((tz R.natAbs : Nat) : Int).toNat), e + (tz R.natAbs : Int), b - (tz R.natAbs : Int)) := by
  obtain ⟨g1, g2, g3⟩ := G
  rw [Int.toNat_natCast, fdiv_nat (by omega), g3]
  have hd := bl_div (tz_le _ R.natAbs (Nat.le_refl _) (by omega)).1
  unfold toldN
  rw [if_neg (by omega)]
  simp only [Prod.mk.injEq, true_and]
  omega
theorem t_two (G : Good' sign R e b q) (h : Builtin.bitAnd R 1 = 0) (h2 : Builtin.bitAnd R 2 ≠ 0) : q = (sign, R.fdiv (2 ^ Int.toNat 1), e + 1, b - 1) := by
  have g1 := G.1
  have he := even_of g1 h
  have e1 : R = ((R.natAbs : Nat) : Int) := by omega
  rw [e1, ne_eq, and2] at h2
  have ht : tz R.natAbs = 1 := by rw [tz_even (by omega) he, tz_odd (by omega)]
  have := t_even G h
  rw [ht] at this
  exact this
theorem g'_pos {man exp : Int} (h0 : man ≠ 0) (h : ¬ man < 0) : Good' 0 man exp (Builtin.Int.intBits man) (told man exp) := by
  refine ⟨by omega, by rw [bits_eq], ?_⟩
  unfold told
  rw [if_neg h]
theorem g'_neg {man exp : Int} (h : man < 0) : Good' 1 (-man) exp (Builtin.Int.intBits (-man)) (told man exp) := by
  refine ⟨by omega, by rw [bits_eq], ?_⟩
  unfold told
  rw [if_pos h, Int.natAbs_neg]
theorem told_nought {whole power : Int} (h : whole = 0) : told whole power = (0, 0, 0, 0) := by
  subst h
  exact toldN_zero _ _
end
end Mine
namespace Mine

noncomputable def rounded (x e most : Int) (wy : Way) : Q4 := roundedN (if x < 0 then 1 else 0) x.natAbs e most wy
def sv (s m : Int) : Int := if s = 1 then -m else m
noncomputable def addX (x e prec : Int) (wy : Way) : Q4 := if prec = 0 then told x e else rounded x e prec wy
/-- the sum of two such numbers -/
noncomputable def addS (ssg sm se ts tm te prec : Int) (wy : Way) : Q4 :=
  addX (sv ssg sm * 2 ^ (se - min se te).toNat + sv ts tm * 2 ^ (te - min se te).toNat) (min se te) prec wy

def PrecIs (prec prec' man : Int) : Prop := (prec' = prec ∧ prec ≠ 0) ∨ (prec' = (Builtin.Int.intBits man : Int) ∧ prec = 0)

theorem roundedN_bl (sign : Int) (n : Nat) (e : Int) (wy : Way) : roundedN sign n e (bl n : Int) wy = toldN sign n e := by
  unfold roundedN
  rw [if_pos (Int.le_refl _)]

theorem close {sign man e x prec prec' : Int} {wy : Way} (hm : 0 ≤ man) (hs : sign = 0 ∨ sign = 1) (hp0 : 0 ≤ prec) (hx : x = sv sign man) (hp : PrecIs prec prec' man) :
    addX x e prec wy = roundedN sign man.natAbs e prec' wy := by
  unfold addX
  have hn : x.natAbs = man.natAbs := by
    rw [hx]; unfold sv; split <;> omega
  rcases hp with ⟨rfl, h⟩ | ⟨rfl, rfl⟩
  · rw [if_neg h]
    unfold rounded
    rw [hn]
    by_cases h0 : man = 0
    · rw [nought h0 hp0, nought h0 hp0]
    · congr 1
      rw [hx]; unfold sv
      rcases hs with rfl | rfl
      · rw [if_neg (by simp; omega)]
      · rw [if_pos (by simp; omega)]
  · rw [if_pos rfl, bits_eq, roundedN_bl]
    unfold told
    rw [hn]
    by_cases h0 : man = 0
    · rw [h0]
      show toldN _ 0 e = toldN _ 0 e
      rw [toldN_zero, toldN_zero]
    · congr 1
      rw [hx]; unfold sv
      rcases hs with rfl | rfl
      · rw [if_neg (by simp; omega)]
      · rw [if_pos (by simp; omega)]

section
variable {ssg sm se ts tm te prec prec' : Int} {wy : Way}

theorem addS_gt (h : 0 < se - te) : addS ssg sm se ts tm te prec wy = addX (sv ssg (sm * 2 ^ (se - te).toNat) + sv ts tm) te prec wy := by
  unfold addS
  rw [Int.min_eq_right (by omega), Int.sub_self]
  congr 1
  unfold sv
  simp only [Int.toNat_zero, Int.pow_zero, Int.mul_one]
  congr 1
  split <;> simp [Int.neg_mul]
theorem addS_lt (h : se - te < 0) : addS ssg sm se ts tm te prec wy = addX (sv ts (tm * 2 ^ (-(se - te)).toNat) + sv ssg sm) se prec wy := by
  unfold addS
  rw [Int.min_eq_left (by omega), Int.sub_self, show -(se - te) = te - se by omega]
  congr 1
  unfold sv
  simp only [Int.toNat_zero, Int.pow_zero, Int.mul_one]
  rw [Int.add_comm]
  congr 1
  split <;> simp [Int.neg_mul]
theorem addS_eq (h : se - te = 0) : addS ssg sm se ts tm te prec wy = addX (sv ssg sm + sv ts tm) te prec wy := by
  unfold addS
  rw [show se = te by omega, Int.min_self, Int.sub_self]
  simp only [Int.toNat_zero, Int.pow_zero, Int.mul_one]
end

section
variable {sa sb A B e prec prec' : Int} {wy : Way}

theorem e_same (hs : sa = 0 ∨ sa = 1) (h : sa = sb) (hA : 0 ≤ A) (hB : 0 ≤ B) (hp0 : 0 ≤ prec) (hp : PrecIs prec prec' (B + A)) : addX (sv sa A + sv sb B) e prec wy = roundedN sa (B + A).natAbs e prec' wy := by
  refine close (by omega) hs hp0 ?_ hp
  subst h
  unfold sv
  split <;> omega
theorem e_1p (hs : sa = 0 ∨ sa = 1) (hs' : sb = 0 ∨ sb = 1) (h : sa ≠ sb) (h1 : sa ≠ 0) (hm : 0 ≤ B - A) (hp0 : 0 ≤ prec) (hp : PrecIs prec prec' (B - A)) : addX (sv sa A + sv sb B) e prec wy = roundedN 0 (B - A).natAbs e prec' wy := by
  refine close hm (.inl rfl) hp0 ?_ hp
  rw [show sa = 1 by omega, show sb = 0 by omega]
  simp [sv]; omega
theorem e_1n (hs : sa = 0 ∨ sa = 1) (hs' : sb = 0 ∨ sb = 1) (h : sa ≠ sb) (h1 : sa ≠ 0) (hm : ¬ 0 ≤ B - A) (hp0 : 0 ≤ prec) (hp : PrecIs prec prec' (-(B - A))) : addX (sv sa A + sv sb B) e prec wy = roundedN 1 (-(B - A)).natAbs e prec' wy := by
  refine close (by omega) (.inr rfl) hp0 ?_ hp
  rw [show sa = 1 by omega, show sb = 0 by omega]
  simp [sv]; omega
theorem e_0p (hs' : sb = 0 ∨ sb = 1) (h : sa ≠ sb) (h1 : sa = 0) (hm : 0 ≤ A - B) (hp0 : 0 ≤ prec) (hp : PrecIs prec prec' (A - B)) : addX (sv sa A + sv sb B) e prec wy = roundedN 0 (A - B).natAbs e prec' wy := by
  refine close hm (.inl rfl) hp0 ?_ hp
  rw [h1, show sb = 1 by omega]
  simp [sv]; omega
theorem e_0n (hs' : sb = 0 ∨ sb = 1) (h : sa ≠ sb) (h1 : sa = 0) (hm : ¬ 0 ≤ A - B) (hp0 : 0 ≤ prec) (hp : PrecIs prec prec' (-(A - B))) : addX (sv sa A + sv sb B) e prec wy = roundedN 1 (-(A - B)).natAbs e prec' wy := by
  refine close (by omega) (.inr rfl) hp0 ?_ hp
  rw [h1, show sb = 1 by omega]
  simp [sv]; omega
end
end Mine
namespace Mine

def upF (wy : Way) (side : Int) (s0 u : Nat) : Bool := match wy with
  | .n => decide (u ≤ 2 * s0)
  | .f => decide (side = 1)
  | .c => decide (side = 0)
  | .u => true
  | .d => false
def lowF (wy : Way) (side : Int) (M U : Nat) : Nat := if upF wy side (M % 2 ^ U) (2 ^ U) = true then M / 2 ^ U + 1 else M / 2 ^ U

theorem bl_shift {M k b : Nat} (h0 : 0 < M) (hb : b < 2 ^ k) : bl (M * 2 ^ k + b) = bl M + k := by
  have a := bl_lo h0
  have c := bl_hi M
  have d := bl_pos h0
  have a' : 2 ^ (bl M - 1) * 2 ^ k ≤ M * 2 ^ k := Nat.mul_le_mul_right _ a
  have c' : (M + 1) * 2 ^ k ≤ 2 ^ bl M * 2 ^ k := Nat.mul_le_mul_right _ c
  rw [← Nat.pow_add] at a' c'
  rw [Nat.add_mul, Nat.one_mul] at c'
  have := bl_eq (n := M * 2 ^ k + b) (b := bl M - 1 + k) (by omega) (by rw [show bl M - 1 + k + 1 = bl M + k by omega]; omega)
  omega

theorem rlow_shift {wy : Way} {side : Int} {M k b U : Nat} (hb0 : 0 < b) (hb : b < 2 ^ k) : rlow wy side (M * 2 ^ k + b) (k + (U + 1)) = lowF wy side M (U + 1) := by
  have hk := Nat.two_pow_pos k
  have hU := Nat.two_pow_pos U
  have e0 : (M * 2 ^ k + b) / 2 ^ k = M := by
    rw [Nat.add_comm, Nat.add_mul_div_right _ _ hk, Nat.div_eq_of_lt hb, Nat.zero_add]
  have e1 : (M * 2 ^ k + b) / 2 ^ (k + (U + 1)) = M / 2 ^ (U + 1) := by
    rw [Nat.pow_add, ← Nat.div_div_eq_div_mul, e0]
  have e2 : (M * 2 ^ k + b) % 2 ^ (k + (U + 1)) = b + 2 ^ k * (M % 2 ^ (U + 1)) := by
    rw [Nat.pow_add, Nat.mod_mul, e0, Nat.add_comm (M * 2 ^ k) b, Nat.add_mul_mod_self_right, Nat.mod_eq_of_lt hb]
  unfold rlow lowF
  rw [e1, e2]
  have hs : rup wy side (M / 2 ^ (U + 1)) (b + 2 ^ k * (M % 2 ^ (U + 1))) (2 ^ (k + (U + 1))) = upF wy side (M % 2 ^ (U + 1)) (2 ^ (U + 1)) := by
    cases wy <;> unfold rup upF <;> try rfl
    simp only
    rw [Nat.pow_add]
    generalize M % 2 ^ (U + 1) = s0 at *
    generalize M / 2 ^ (U + 1) = L at *
    rw [Nat.pow_succ]
    generalize 2 ^ k = K at *
    generalize 2 ^ U = V at *
    by_cases hc : V * 2 ≤ 2 * s0
    · have h1 : K * (V * 2) ≤ K * (2 * s0) := Nat.mul_le_mul_left _ hc
      have h2 : K * (2 * s0) = 2 * (K * s0) := by rw [Nat.mul_left_comm]
      rw [decide_eq_true hc, decide_eq_true (by omega : K * (V * 2) < 2 * (b + K * s0))]
      rfl
    · have h1 : K * (s0 + 1) ≤ K * V := Nat.mul_le_mul_left _ (by omega)
      have h2 : K * (V * 2) = 2 * (K * V) := by rw [Nat.mul_comm V 2, Nat.mul_left_comm]
      have h3 : K * (s0 + 1) = K * s0 + K := by rw [Nat.mul_add, Nat.mul_one]
      rw [decide_eq_false hc, decide_eq_false (by omega : ¬ K * (V * 2) < 2 * (b + K * s0)), decide_eq_false (by omega : ¬ 2 * (b + K * s0) = K * (V * 2))]
      rfl
  rw [hs]
  by_cases hu : upF wy side (M % 2 ^ (U + 1)) (2 ^ (U + 1)) = true
  · rw [if_pos ⟨by omega, hu⟩, if_pos hu]
  · rw [if_neg (fun x => hu x.2), if_neg hu]

theorem rounded_shift {wy : Way} {side p : Int} {M k b most : Nat} (h0 : 0 < M) (hb0 : 0 < b) (hb : b < 2 ^ k) (hm : most < bl M) :
    roundedN side (M * 2 ^ k + b) p (most : Int) wy = toldN side (lowF wy side M (bl M - most)) (p + (k : Int) + ((bl M - most : Nat) : Int)) := by
  have e := bl_shift h0 hb
  unfold roundedN
  rw [if_neg (by rw [e]; omega), e]
  have c : (((bl M + k : Nat) : Int) - (most : Int)).toNat = k + ((bl M - most - 1) + 1) := by omega
  rw [c, rlow_shift hb0 hb]
  rw [show bl M - most - 1 + 1 = bl M - most by omega]
  congr 1
  omega

/-- far apart: the small one counts by its side alone -/
theorem far_add {wy : Way} {side p p' : Int} {a B k m j most : Nat} (ha : 0 < a) (hB : 0 < B) (hj : j ≤ k) (hjm : j < m) (hBk : B < 2 ^ (k - j)) (hm : most < bl (a * 2 ^ j)) (hp : p + (k : Int) = p' + (m : Int)) :
    roundedN side (a * 2 ^ k + B) p (most : Int) wy = roundedN side (a * 2 ^ m + 1) p' (most : Int) wy := by
  have hM : 0 < a * 2 ^ j := Nat.mul_pos ha (Nat.two_pow_pos j)
  have e1 : a * 2 ^ k = a * 2 ^ j * 2 ^ (k - j) := by rw [Nat.mul_assoc, ← Nat.pow_add]; congr 2; omega
  have e2 : a * 2 ^ m = a * 2 ^ j * 2 ^ (m - j) := by rw [Nat.mul_assoc, ← Nat.pow_add]; congr 2; omega
  have h1 : 1 < 2 ^ (m - j) := Nat.one_lt_two_pow (by omega)
  rw [e1, e2, rounded_shift hM hB hBk hm, rounded_shift hM (by omega) h1 hm]
  congr 2
  omega
theorem far_sub {wy : Way} {side p p' : Int} {a B k m j most : Nat} (hB : 0 < B) (hj : j ≤ k) (hjm : j < m) (hBk : B < 2 ^ (k - j)) (hM : 0 < a * 2 ^ j - 1) (hm : most < bl (a * 2 ^ j - 1)) (hp : p + (k : Int) = p' + (m : Int)) :
    roundedN side (a * 2 ^ k - B) p (most : Int) wy = roundedN side (a * 2 ^ m - 1) p' (most : Int) wy := by
  have e1 : a * 2 ^ k = a * 2 ^ j * 2 ^ (k - j) := by rw [Nat.mul_assoc, ← Nat.pow_add]; congr 2; omega
  have e2 : a * 2 ^ m = a * 2 ^ j * 2 ^ (m - j) := by rw [Nat.mul_assoc, ← Nat.pow_add]; congr 2; omega
  have h1 : 1 < 2 ^ (m - j) := Nat.one_lt_two_pow (by omega)
  generalize a * 2 ^ j = A at *
  have f1 : a * 2 ^ k - B = (A - 1) * 2 ^ (k - j) + (2 ^ (k - j) - B) := by
    rw [e1, Nat.sub_mul, Nat.one_mul]
    have : 1 * 2 ^ (k - j) ≤ A * 2 ^ (k - j) := Nat.mul_le_mul_right _ (by omega)
    omega
  have f2 : a * 2 ^ m - 1 = (A - 1) * 2 ^ (m - j) + (2 ^ (m - j) - 1) := by
    rw [e2, Nat.sub_mul, Nat.one_mul]
    have : 1 * 2 ^ (m - j) ≤ A * 2 ^ (m - j) := Nat.mul_le_mul_right _ (by omega)
    omega
  rw [f1, f2, rounded_shift hM (by omega) (by omega) hm, rounded_shift hM (by omega) (by omega) hm]
  congr 2
  omega
end Mine
namespace Mine

theorem bl_gt {n p : Nat} (h : 2 ^ p ≤ n) : p < bl n := (Nat.pow_lt_pow_iff_right (a := 2) (by omega)).mp (Nat.lt_of_le_of_lt h (bl_hi n))
theorem bl_le {n p : Nat} (h : n < 2 ^ p) : bl n ≤ p := by
  rcases Nat.eq_zero_or_pos n with e | e
  · subst e
    show 0 ≤ p
    omega
  · have a := bl_lo e
    have := (Nat.pow_lt_pow_iff_right (a := 2) (by omega)).mp (Nat.lt_of_le_of_lt a h)
    omega

section
variable {sa sb a B k e E prec r ba bB : Int} {wy : Way}

theorem far_gen (hss : sa = 0 ∨ sa = 1) (hts : sb = 0 ∨ sb = 1) (ha : 0 < a) (hB : 0 < B) (hB' : B < 2 ^ 64) (hba : ba = Builtin.Int.intBits a) (hbB : bB = Builtin.Int.intBits B) (hp0 : 0 ≤ prec) (hpn : prec ≠ 0)
    (hk : 100 < k) (hE : E = e + k) (hd : prec + 4 < ba + k - bB) (hr : sb = sa ∧ r = a * 2 ^ (prec + 4).toNat + 1 ∨ sb ≠ sa ∧ r = a * 2 ^ (prec + 4).toNat - 1) :
    addX (sv sa (a * 2 ^ k.toNat) + sv sb B) e prec wy = roundedN sa r.natAbs (E - (prec + 4)) prec wy := by
  obtain ⟨an, rfl⟩ : ∃ n : Nat, a = n := ⟨a.toNat, by omega⟩
  obtain ⟨Bn, rfl⟩ : ∃ n : Nat, B = n := ⟨B.toNat, by omega⟩
  obtain ⟨pn, rfl⟩ : ∃ n : Nat, prec = n := ⟨prec.toNat, by omega⟩
  obtain ⟨kn, rfl⟩ : ∃ n : Nat, k = n := ⟨k.toNat, by omega⟩
  have ea : ba = (bl an : Int) := by rw [hba, bits_eq, Int.natAbs_natCast]
  have eB : bB = (bl Bn : Int) := by rw [hbB, bits_eq, Int.natAbs_natCast]
  rw [ea, eB] at hd
  have hB2 : Bn < 2 ^ 64 := by
    have : ((2 : Int) ^ 64) = ((2 ^ 64 : Nat) : Int) := by norm_cast
    omega
  have hb64 := bl_le hB2
  have hbp := bl_pos (n := an) (by omega)
  have hBp := bl_pos (n := Bn) (by omega)
  have hm : ((pn : Int) + 4).toNat = pn + 4 := by omega
  rw [hm] at hr
  rw [Int.toNat_natCast]
  -- how far the great one is to be spread
  obtain ⟨j, hj⟩ : ∃ j : Nat, j = pn + 2 - bl an := ⟨_, rfl⟩
  have hjk : j ≤ kn := by omega
  have hjm : j < pn + 4 := by omega
  have hBk : Bn < 2 ^ (kn - j) := Nat.lt_of_lt_of_le (bl_hi Bn) (Nat.pow_le_pow_right (by omega) (by omega))
  have hsp : 2 ^ (pn + 1) ≤ an * 2 ^ j := by
    have h1 : 2 ^ (bl an - 1) * 2 ^ j ≤ an * 2 ^ j := Nat.mul_le_mul_right _ (bl_lo (by omega))
    rw [← Nat.pow_add] at h1
    exact Nat.le_trans (Nat.pow_le_pow_right (by omega) (by omega)) h1
  have hpow : 2 ^ (pn + 1) = 2 * 2 ^ pn := by rw [Nat.pow_succ, Nat.mul_comm]
  have hpp := Nat.two_pow_pos pn
  have hA : 2 ^ kn ≤ an * 2 ^ kn := by
    have : 1 * 2 ^ kn ≤ an * 2 ^ kn := Nat.mul_le_mul_right _ (by omega)
    omega
  have hBA : Bn < 2 ^ kn := Nat.lt_of_lt_of_le hBk (Nat.pow_le_pow_right (by omega) (by omega))
  have cA : (an : Int) * 2 ^ kn = ((an * 2 ^ kn : Nat) : Int) := by rw [Int.natCast_mul, Int.natCast_pow]; rfl
  have cM : (an : Int) * 2 ^ (pn + 4) = ((an * 2 ^ (pn + 4) : Nat) : Int) := by rw [Int.natCast_mul, Int.natCast_pow]; rfl
  have hMp : 0 < an * 2 ^ (pn + 4) := Nat.mul_pos (by omega) (Nat.two_pow_pos _)
  rw [cM] at hr
  rw [cA]
  rcases hr with ⟨hs, hr⟩ | ⟨hs, hr⟩
  · rw [close (man := ((an * 2 ^ kn + Bn : Nat) : Int)) (sign := sa) (prec' := (pn : Int)) (by omega) hss hp0 (by rw [hs]; unfold sv; split <;> omega) (.inl ⟨rfl, hpn⟩)]
    rw [Int.natAbs_natCast, show r.natAbs = an * 2 ^ (pn + 4) + 1 by omega]
    exact far_add (by omega) (by omega) hjk hjm hBk (bl_gt (by omega)) (by omega)
  · rw [close (man := ((an * 2 ^ kn - Bn : Nat) : Int)) (sign := sa) (prec' := (pn : Int)) (by omega) hss hp0 ?_ (.inl ⟨rfl, hpn⟩)]
    · rw [Int.natAbs_natCast, show r.natAbs = an * 2 ^ (pn + 4) - 1 by omega]
      exact far_sub (by omega) hjk hjm hBk (by omega) (bl_gt (by omega)) (by omega)
    · rcases hss with rfl | rfl <;> rcases hts with rfl | rfl <;> simp [sv] at hs ⊢ <;> omega
end

section
variable {ssg sm se sb ts tm te tb prec prec' r : Int} {wy : Way}

theorem A_far_gt (hss : ssg = 0 ∨ ssg = 1) (hts : ts = 0 ∨ ts = 1) (hsm : 0 < sm) (htm : 0 < tm) (htm' : tm < 2 ^ 64) (hsb : sb = Builtin.Int.intBits sm) (htb : tb = Builtin.Int.intBits tm) (hp0 : 0 ≤ prec) (hpn : prec ≠ 0)
    (h : 100 < se - te) (hd : prec + 4 < sb + se - tb - te) (hr : ts = ssg ∧ r = sm * 2 ^ (prec + 4).toNat + 1 ∨ ts ≠ ssg ∧ r = sm * 2 ^ (prec + 4).toNat - 1) :
    addS ssg sm se ts tm te prec wy = roundedN ssg r.natAbs (se - (prec + 4)) prec wy :=
  (addS_gt (by omega)).trans (far_gen hss hts hsm htm htm' hsb htb hp0 hpn h (by omega) (by omega) hr)
theorem A_far_lt (hss : ssg = 0 ∨ ssg = 1) (hts : ts = 0 ∨ ts = 1) (hsm : 0 < sm) (htm : 0 < tm) (hsm' : sm < 2 ^ 64) (hsb : sb = Builtin.Int.intBits sm) (htb : tb = Builtin.Int.intBits tm) (hp0 : 0 ≤ prec) (hpn : prec ≠ 0)
    (h : se - te < -100) (hd : prec + 4 < tb + te - sb - se) (hr : ssg = ts ∧ r = tm * 2 ^ (prec + 4).toNat + 1 ∨ ssg ≠ ts ∧ r = tm * 2 ^ (prec + 4).toNat - 1) :
    addS ssg sm se ts tm te prec wy = roundedN ts r.natAbs (te - (prec + 4)) prec wy :=
  (addS_lt (by omega)).trans (far_gen hts hss htm hsm hsm' htb hsb hp0 hpn (by omega) (by omega) (by omega) hr)

theorem mul_nn {a : Int} (h : 0 < a) (k : Nat) : 0 ≤ a * 2 ^ k := Int.mul_nonneg (by omega) (Int.le_of_lt (Int.pow_pos (by decide)))

section
variable (hss : ssg = 0 ∨ ssg = 1) (hts : ts = 0 ∨ ts = 1) (hsm : 0 < sm) (htm : 0 < tm) (hp0 : 0 ≤ prec)
include hss hts hsm htm hp0
theorem A_gt1 (h : 0 < se - te) (h1 : ssg = ts) (hp : PrecIs prec prec' (tm + sm * 2 ^ (se - te).toNat)) : addS ssg sm se ts tm te prec wy = roundedN ssg (tm + sm * 2 ^ (se - te).toNat).natAbs te prec' wy :=
  (addS_gt h).trans (e_same hss h1 (mul_nn hsm _) (by omega) hp0 hp)
theorem A_gt2 (h : 0 < se - te) (h1 : ssg ≠ ts) (h2 : ssg ≠ 0) (h3 : 0 ≤ tm - sm * 2 ^ (se - te).toNat) (hp : PrecIs prec prec' (tm - sm * 2 ^ (se - te).toNat)) : addS ssg sm se ts tm te prec wy = roundedN 0 (tm - sm * 2 ^ (se - te).toNat).natAbs te prec' wy :=
  (addS_gt h).trans (e_1p hss hts h1 h2 h3 hp0 hp)
theorem A_gt3 (h : 0 < se - te) (h1 : ssg ≠ ts) (h2 : ssg ≠ 0) (h3 : ¬ 0 ≤ tm - sm * 2 ^ (se - te).toNat) (hp : PrecIs prec prec' (-(tm - sm * 2 ^ (se - te).toNat))) : addS ssg sm se ts tm te prec wy = roundedN 1 (-(tm - sm * 2 ^ (se - te).toNat)).natAbs te prec' wy :=
  (addS_gt h).trans (e_1n hss hts h1 h2 h3 hp0 hp)
theorem A_gt4 (h : 0 < se - te) (h1 : ssg ≠ ts) (h2 : ssg = 0) (h3 : 0 ≤ sm * 2 ^ (se - te).toNat - tm) (hp : PrecIs prec prec' (sm * 2 ^ (se - te).toNat - tm)) : addS ssg sm se ts tm te prec wy = roundedN 0 (sm * 2 ^ (se - te).toNat - tm).natAbs te prec' wy :=
  (addS_gt h).trans (e_0p hts h1 h2 h3 hp0 hp)
theorem A_gt5 (h : 0 < se - te) (h1 : ssg ≠ ts) (h2 : ssg = 0) (h3 : ¬ 0 ≤ sm * 2 ^ (se - te).toNat - tm) (hp : PrecIs prec prec' (-(sm * 2 ^ (se - te).toNat - tm))) : addS ssg sm se ts tm te prec wy = roundedN 1 (-(sm * 2 ^ (se - te).toNat - tm)).natAbs te prec' wy :=
  (addS_gt h).trans (e_0n hts h1 h2 h3 hp0 hp)
theorem lt_of (h0 : se - te ≠ 0) (h : ¬ 0 < se - te) : se - te < 0 := by omega
theorem A_lt1 (h0 : se - te ≠ 0) (h : ¬ 0 < se - te) (h1 : ssg = ts) (hp : PrecIs prec prec' (sm + tm * 2 ^ (-(se - te)).toNat)) : addS ssg sm se ts tm te prec wy = roundedN ssg (sm + tm * 2 ^ (-(se - te)).toNat).natAbs se prec' wy := by
  subst h1
  exact (addS_lt (by omega)).trans (e_same hts rfl (mul_nn htm _) (by omega) hp0 hp)
theorem A_lt2 (h0 : se - te ≠ 0) (h : ¬ 0 < se - te) (h1 : ssg ≠ ts) (h2 : ts ≠ 0) (h3 : 0 ≤ sm - tm * 2 ^ (-(se - te)).toNat) (hp : PrecIs prec prec' (sm - tm * 2 ^ (-(se - te)).toNat)) : addS ssg sm se ts tm te prec wy = roundedN 0 (sm - tm * 2 ^ (-(se - te)).toNat).natAbs se prec' wy :=
  (addS_lt (by omega)).trans (e_1p hts hss h1.symm h2 h3 hp0 hp)
theorem A_lt3 (h0 : se - te ≠ 0) (h : ¬ 0 < se - te) (h1 : ssg ≠ ts) (h2 : ts ≠ 0) (h3 : ¬ 0 ≤ sm - tm * 2 ^ (-(se - te)).toNat) (hp : PrecIs prec prec' (-(sm - tm * 2 ^ (-(se - te)).toNat))) : addS ssg sm se ts tm te prec wy = roundedN 1 (-(sm - tm * 2 ^ (-(se - te)).toNat)).natAbs se prec' wy :=
  (addS_lt (by omega)).trans (e_1n hts hss h1.symm h2 h3 hp0 hp)
theorem A_lt4 (h0 : se - te ≠ 0) (h : ¬ 0 < se - te) (h1 : ssg ≠ ts) (h2 : ts = 0) (h3 : 0 ≤ tm * 2 ^ (-(se - te)).toNat - sm) (hp : PrecIs prec prec' (tm * 2 ^ (-(se - te)).toNat - sm)) : addS ssg sm se ts tm te prec wy = roundedN 0 (tm * 2 ^ (-(se - te)).toNat - sm).natAbs se prec' wy :=
  (addS_lt (by omega)).trans (e_0p hss h1.symm h2 h3 hp0 hp)
theorem A_lt5 (h0 : se - te ≠ 0) (h : ¬ 0 < se - te) (h1 : ssg ≠ ts) (h2 : ts = 0) (h3 : ¬ 0 ≤ tm * 2 ^ (-(se - te)).toNat - sm) (hp : PrecIs prec prec' (-(tm * 2 ^ (-(se - te)).toNat - sm))) : addS ssg sm se ts tm te prec wy = roundedN 1 (-(tm * 2 ^ (-(se - te)).toNat - sm)).natAbs se prec' wy :=
  (addS_lt (by omega)).trans (e_0n hss h1.symm h2 h3 hp0 hp)
theorem A_eq1 (h : se - te = 0) (h1 : ssg = ts) (hp : PrecIs prec prec' (tm + sm)) : addS ssg sm se ts tm te prec wy = roundedN ssg (tm + sm).natAbs te prec' wy :=
  (addS_eq h).trans (e_same hss h1 (by omega) (by omega) hp0 hp)
theorem A_eq2 (h : se - te = 0) (h1 : ssg ≠ ts) (h2 : ssg ≠ 0) (h3 : 0 ≤ tm - sm) (hp : PrecIs prec prec' (tm - sm)) : addS ssg sm se ts tm te prec wy = roundedN 0 (tm - sm).natAbs te prec' wy :=
  (addS_eq h).trans (e_1p hss hts h1 h2 h3 hp0 hp)
theorem A_eq3 (h : se - te = 0) (h1 : ssg ≠ ts) (h2 : ssg ≠ 0) (h3 : ¬ 0 ≤ tm - sm) (hp : PrecIs prec prec' (-(tm - sm))) : addS ssg sm se ts tm te prec wy = roundedN 1 (-(tm - sm)).natAbs te prec' wy :=
  (addS_eq h).trans (e_1n hss hts h1 h2 h3 hp0 hp)
theorem A_eq4 (h : se - te = 0) (h1 : ssg ≠ ts) (h2 : ssg = 0) (h3 : 0 ≤ sm - tm) (hp : PrecIs prec prec' (sm - tm)) : addS ssg sm se ts tm te prec wy = roundedN 0 (sm - tm).natAbs te prec' wy :=
  (addS_eq h).trans (e_0p hts h1 h2 h3 hp0 hp)
theorem A_eq5 (h : se - te = 0) (h1 : ssg ≠ ts) (h2 : ssg = 0) (h3 : ¬ 0 ≤ sm - tm) (hp : PrecIs prec prec' (-(sm - tm))) : addS ssg sm se ts tm te prec wy = roundedN 1 (-(sm - tm)).natAbs te prec' wy :=
  (addS_eq h).trans (e_0n hts h1 h2 h3 hp0 hp)
end
end

-- what the rounding asks of its arguments
theorem nn_add {a b : Int} {k : Nat} (ha : 0 < a) (hb : 0 < b) : 0 ≤ b + a * 2 ^ k := by
  have := mul_nn ha k
  omega
theorem nn_add0 {a b : Int} (ha : 0 < a) (hb : 0 < b) : 0 ≤ b + a := by omega
theorem nn_neg {x : Int} (h : ¬ 0 ≤ x) : 0 ≤ -x := by omega
theorem nn_r {a r : Int} {k : Nat} {P R : Prop} (hr : P ∧ r = a * 2 ^ k + 1 ∨ R ∧ r = a * 2 ^ k - 1) (ha : 0 < a) : 0 ≤ r := by
  have h : 1 * 1 ≤ a * 2 ^ k := Int.mul_le_mul (by omega) (Int.pow_pos (by decide)) (by decide) (by omega)
  omega
theorem bits_or (x : Int) : x = 0 ∨ 1 ≤ (Builtin.Int.intBits x : Int) := by
  rw [bits_eq]
  by_cases h : x = 0
  · exact .inl h
  · exact .inr (by have := bl_pos (n := x.natAbs) (by omega); omega)
theorem one_le {x : Int} (h : 0 ≤ x) (h' : x ≠ 0) : 1 ≤ x := by omega

theorem b_of {x : Int} {m : Nat} (h : x.natAbs < 2 ^ m) (hm : m ≤ 100000) : (Builtin.Int.intBits x : Int) ≤ 100000 := by
  rw [bits_eq]
  have := bl_le h
  omega
theorem mul_lt64 {a : Int} (ha : 0 < a) (ha' : a < 2 ^ 64) (k : Nat) : (a * 2 ^ k).natAbs < 2 ^ (64 + k) := by
  rw [Int.natAbs_mul, Nat.pow_add]
  have e : (2 ^ k : Int).natAbs = 2 ^ k := by
    rw [Int.natAbs_pow]
    rfl
  rw [e]
  exact Nat.mul_lt_mul_of_pos_right (by have : ((2 : Int) ^ 64) = ((2 ^ 64 : Nat) : Int) := by norm_cast
                                        omega) (Nat.two_pow_pos k)
theorem pow64 (k : Nat) : 2 ^ 64 ≤ 2 ^ (64 + k) := Nat.pow_le_pow_right (by decide) (by omega)
theorem b_wide {x a b : Int} {k : Nat} (ha : 0 < a) (ha' : a < 2 ^ 64) (hb : 0 < b) (hb' : b < 2 ^ 64) (hk : k ≤ 20000) (hx : x.natAbs ≤ (a * 2 ^ k).natAbs + b.natAbs) : (Builtin.Int.intBits x : Int) ≤ 100000 := by
  have h1 := mul_lt64 ha ha' k
  have h2 := pow64 k
  have h3 : ((2 : Int) ^ 64) = ((2 ^ 64 : Nat) : Int) := by norm_cast
  refine b_of (m := 64 + k + 1) ?_ (by omega)
  rw [Nat.pow_succ]
  omega
section
variable {a b r : Int} {k : Nat} (ha : 0 < a) (ha' : a < 2 ^ 64) (hb : 0 < b) (hb' : b < 2 ^ 64)
include ha ha' hb hb'
theorem b_1 (hk : k ≤ 20000) : (Builtin.Int.intBits (b + a * 2 ^ k) : Int) ≤ 100000 := b_wide ha ha' hb hb' hk (by omega)
theorem b_2 (hk : k ≤ 20000) : (Builtin.Int.intBits (b - a * 2 ^ k) : Int) ≤ 100000 := b_wide ha ha' hb hb' hk (by omega)
theorem b_3 (hk : k ≤ 20000) : (Builtin.Int.intBits (-(b - a * 2 ^ k)) : Int) ≤ 100000 := b_wide ha ha' hb hb' hk (by omega)
theorem b_4 (hk : k ≤ 20000) : (Builtin.Int.intBits (a * 2 ^ k - b) : Int) ≤ 100000 := b_wide ha ha' hb hb' hk (by omega)
theorem b_5 (hk : k ≤ 20000) : (Builtin.Int.intBits (-(a * 2 ^ k - b)) : Int) ≤ 100000 := b_wide ha ha' hb hb' hk (by omega)
theorem b_6 : (Builtin.Int.intBits (b + a) : Int) ≤ 100000 := b_wide (k := 0) ha ha' hb hb' (by decide) (by omega)
theorem b_7 : (Builtin.Int.intBits (b - a) : Int) ≤ 100000 := b_wide (k := 0) ha ha' hb hb' (by decide) (by omega)
theorem b_8 : (Builtin.Int.intBits (-(b - a)) : Int) ≤ 100000 := b_wide (k := 0) ha ha' hb hb' (by decide) (by omega)
end
theorem b_r {a r : Int} {k : Nat} {P R : Prop} (hr : P ∧ r = a * 2 ^ k + 1 ∨ R ∧ r = a * 2 ^ k - 1) (ha : 0 < a) (ha' : a < 2 ^ 64) (hk : k ≤ 20000) : (Builtin.Int.intBits r : Int) ≤ 100000 :=
  b_wide (b := 1) ha ha' (by decide) (by decide) hk (by omega)
theorem k_gt {se te : Int} (h1 : -5000 ≤ se) (h2 : se ≤ 5000) (h3 : -5000 ≤ te) (h4 : te ≤ 5000) : (se - te).toNat ≤ 20000 := by omega
theorem k_lt_ {se te : Int} (h1 : -5000 ≤ se) (h2 : se ≤ 5000) (h3 : -5000 ≤ te) (h4 : te ≤ 5000) : (-(se - te)).toNat ≤ 20000 := by omega
theorem k_prec {prec : Int} (h0 : 0 ≤ prec) (h : prec ≤ 5000) : (prec + 4).toNat ≤ 20000 := by omega
theorem precA {prec man : Int} (h : prec ≠ 0) : PrecIs prec prec man := .inl ⟨rfl, h⟩
theorem precB {prec man : Int} (h : prec = 0) : PrecIs prec (Builtin.Int.intBits man : Int) man := .inr ⟨rfl, h⟩
end Mine
namespace Mine

theorem bl_two {n : Nat} (h : 0 < n) : bl (2 * n) = bl n + 1 := by
  have := bl_shift (M := n) (k := 1) (b := 0) h (by decide)
  rw [show n * 2 ^ 1 + 0 = 2 * n by omega] at this
  exact this
theorem toldN_two {s p : Int} {n : Nat} : toldN s (2 * n) (p - 1) = toldN s n p := by
  rcases Nat.eq_zero_or_pos n with e | e
  · rw [e, toldN_zero, toldN_zero]
  · have := toldN_half (side := s) (p := p - 1) (n := 2 * n) (by omega) (by omega)
    rw [← this, show 2 * n / 2 = n by omega, show p - 1 + 1 = p by omega]
theorem rlow_two {wy : Way} {s : Int} {n c : Nat} : rlow wy s (2 * n) (c + 1) = rlow wy s n c := by
  unfold rlow
  have hp := Nat.two_pow_pos c
  have e1 : 2 * n / 2 ^ (c + 1) = n / 2 ^ c := by
    rw [Nat.pow_succ, Nat.mul_comm (2 ^ c) 2, Nat.mul_div_mul_left _ _ (by decide)]
  have e2 : 2 * n % 2 ^ (c + 1) = 2 * (n % 2 ^ c) := by
    rw [Nat.pow_succ, Nat.mul_comm (2 ^ c) 2, Nat.mul_mod_mul_left]
  rw [e1, e2]
  have hs : rup wy s (n / 2 ^ c) (2 * (n % 2 ^ c)) (2 ^ (c + 1)) = rup wy s (n / 2 ^ c) (n % 2 ^ c) (2 ^ c) := by
    cases wy <;> unfold rup <;> try rfl
    simp only
    rw [Nat.pow_succ]
    generalize n % 2 ^ c = r
    generalize n / 2 ^ c = l
    generalize 2 ^ c = u
    congr 1
    · apply decide_eq_decide.mpr; omega
    · congr 1
      apply decide_eq_decide.mpr; omega
  rw [hs]
  by_cases h : 0 < n % 2 ^ c ∧ rup wy s (n / 2 ^ c) (n % 2 ^ c) (2 ^ c) = true
  · rw [if_pos h, if_pos ⟨by omega, h.2⟩]
  · rw [if_neg h, if_neg (fun x => h ⟨by omega, x.2⟩)]
theorem roundedN_two {wy : Way} {s p most : Int} {n : Nat} : roundedN s (2 * n) (p - 1) most wy = roundedN s n p most wy := by
  rcases Nat.eq_zero_or_pos n with e | e
  · subst e
    unfold roundedN
    have : bl 0 = 0 := rfl
    rw [Nat.mul_zero, this]
    split
    · rw [toldN_zero, toldN_zero]
    · have hr : ∀ c, rlow wy s 0 c = 0 := by intro c; unfold rlow; simp
      rw [hr, toldN_zero, toldN_zero]
  · unfold roundedN
    rw [bl_two e]
    by_cases h : (bl n : Int) ≤ most
    · rw [if_pos h]
      by_cases h1 : ((bl n + 1 : Nat) : Int) ≤ most
      · rw [if_pos h1, toldN_two]
      · rw [if_neg h1]
        have e1 : ((bl n + 1 : Nat) : Int) - most = 1 := by omega
        rw [e1, show Int.toNat 1 = 1 from rfl]
        have e2 : rlow wy s (2 * n) 1 = n := by
          unfold rlow
          rw [Nat.pow_one, show 2 * n % 2 = 0 by omega, if_neg (by omega)]
          omega
        rw [e2, show p - 1 + 1 = p by omega]
    · rw [if_neg h, if_neg (by omega)]
      rw [show (((bl n + 1 : Nat) : Int) - most).toNat = ((bl n : Int) - most).toNat + 1 by omega, rlow_two]
      congr 1
      omega

theorem toldN_scale {s : Int} {n : Nat} : ∀ (k : Nat) {p : Int}, toldN s (n * 2 ^ k) (p - k) = toldN s n p
  | 0, p => by simp
  | k + 1, p => by
    have h := toldN_scale k (s := s) (n := n) (p := p)
    have t := toldN_two (s := s) (p := p - k) (n := n * 2 ^ k)
    rw [← h, ← t, Nat.pow_succ]
    congr 1
    · rw [← Nat.mul_assoc, Nat.mul_comm]
    · omega
theorem roundedN_scale {wy : Way} {s most : Int} {n : Nat} : ∀ (k : Nat) {p : Int}, roundedN s (n * 2 ^ k) (p - k) most wy = roundedN s n p most wy
  | 0, p => by simp
  | k + 1, p => by
    have h := roundedN_scale k (wy := wy) (s := s) (most := most) (n := n) (p := p)
    have t := roundedN_two (wy := wy) (s := s) (most := most) (p := p - k) (n := n * 2 ^ k)
    rw [← h, ← t, Nat.pow_succ]
    congr 1
    · rw [← Nat.mul_assoc, Nat.mul_comm]
    · omega
theorem addX_scale {wy : Way} {x e prec : Int} (k : Nat) : addX (x * 2 ^ k) (e - k) prec wy = addX x e prec wy := by
  have hp : (0 : Int) < 2 ^ k := Int.pow_pos (by decide)
  have hs : (x * 2 ^ k < 0) = (x < 0) := by
    apply propext
    constructor
    · intro h
      rcases Int.lt_or_le x 0 with l | l
      · exact l
      · have := Int.mul_nonneg l (Int.le_of_lt hp)
        omega
    · intro h
      exact Int.mul_neg_of_neg_of_pos h hp
  have hn : (x * 2 ^ k).natAbs = x.natAbs * 2 ^ k := by
    rw [Int.natAbs_mul, Int.natAbs_pow]
    rfl
  unfold addX told rounded
  simp only [hs, hn, toldN_scale, roundedN_scale]

theorem told_parts {w p : Int} (h : w ≠ 0) (hw : w.natAbs < 2 ^ 64) : ∃ sg m e b : Int, ∃ k : Nat, told w p = (sg, m, e, b) ∧ (sg = 0 ∨ sg = 1) ∧ 0 < m ∧ m < 2 ^ 64 ∧ b = Builtin.Int.intBits m ∧ e = p + k ∧ k ≤ 64 ∧ w = sv sg m * 2 ^ k := by
  have h0 : 0 < w.natAbs := by omega
  obtain ⟨t1, t2⟩ := tz_le _ w.natAbs (Nat.le_refl _) h0
  have hq : 0 < w.natAbs / 2 ^ tz w.natAbs := Nat.div_pos t1 (Nat.two_pow_pos _)
  have hq2 : w.natAbs / 2 ^ tz w.natAbs ≤ w.natAbs := Nat.div_le_self _ _
  have hk : tz w.natAbs < 64 := (Nat.pow_lt_pow_iff_right (a := 2) (by omega)).mp (Nat.lt_of_le_of_lt t1 hw)
  have e64 : ((2 : Int) ^ 64) = ((2 ^ 64 : Nat) : Int) := by norm_cast
  refine ⟨if w < 0 then 1 else 0, ((w.natAbs / 2 ^ tz w.natAbs : Nat) : Int), p + (tz w.natAbs : Int), (bl (w.natAbs / 2 ^ tz w.natAbs) : Int), tz w.natAbs, ?_, by split <;> simp, by omega, by rw [e64]; omega, by rw [bits_eq, Int.natAbs_natCast], rfl, by omega, ?_⟩
  · unfold told toldN
    rw [if_neg (by omega)]
  · have hm : w.natAbs / 2 ^ tz w.natAbs * 2 ^ tz w.natAbs = w.natAbs := by
      have := Nat.div_add_mod w.natAbs (2 ^ tz w.natAbs)
      rw [t2, Nat.add_zero, Nat.mul_comm] at this
      exact this
    have hz : ((w.natAbs / 2 ^ tz w.natAbs : Nat) : Int) * 2 ^ tz w.natAbs = (w.natAbs : Int) := by
      have : (((w.natAbs / 2 ^ tz w.natAbs * 2 ^ tz w.natAbs : Nat)) : Int) = (w.natAbs : Int) := by rw [hm]
      rw [Int.natCast_mul, Int.natCast_pow] at this
      exact this
    unfold sv
    by_cases hw0 : w < 0
    · rw [if_pos hw0, if_pos rfl, Int.neg_mul, hz]
      omega
    · rw [if_neg hw0, if_neg (by decide), hz]
      omega
theorem told_ne {w p : Int} (h : w ≠ 0) : told w p ≠ (0, 0, 0, 0) := by
  unfold told toldN
  rw [if_neg (by omega)]
  have h0 : 0 < w.natAbs := by omega
  have hq : 0 < w.natAbs / 2 ^ tz w.natAbs := Nat.div_pos (tz_le _ w.natAbs (Nat.le_refl _) h0).1 (Nat.two_pow_pos _)
  intro e
  have := congrArg (fun q : Q4 => q.2.1) e
  simp only at this
  omega

/-- the sum of two numbers in twos -/
noncomputable def sumS (w1 p1 w2 p2 prec : Int) (wy : Way) : Q4 := addX (w1 * 2 ^ (p1 - min p1 p2).toNat + w2 * 2 ^ (p2 - min p1 p2).toNat) (min p1 p2) prec wy

theorem sum_l {w p P prec : Int} {wy : Way} (h : P ≤ p) : addX (w * 2 ^ (p - P).toNat) P prec wy = addX w p prec wy := by
  have := addX_scale (wy := wy) (x := w) (e := p) (prec := prec) (p - P).toNat
  rw [show p - ((p - P).toNat : Int) = P by omega] at this
  exact this
theorem sumS_zl {p1 w2 p2 prec : Int} {wy : Way} : sumS 0 p1 w2 p2 prec wy = addX w2 p2 prec wy := by
  unfold sumS
  rw [Int.zero_mul, Int.zero_add]
  exact sum_l (by omega)
theorem sumS_zr {w1 p1 p2 prec : Int} {wy : Way} : sumS w1 p1 0 p2 prec wy = addX w1 p1 prec wy := by
  unfold sumS
  rw [Int.zero_mul, Int.add_zero]
  exact sum_l (by omega)
theorem addX_zero {e prec : Int} {wy : Way} (hp : 0 ≤ prec) : addX 0 e prec wy = (0, 0, 0, 0) := by
  unfold addX
  split
  · exact told_nought rfl
  · exact nought rfl hp
theorem addX_k {x p e prec : Int} {k : Nat} {wy : Way} (he : e = p + k) : addX (x * 2 ^ k) p prec wy = addX x e prec wy := by
  have := addX_scale (wy := wy) (x := x) (e := e) (prec := prec) k
  rw [show e - (k : Int) = p by omega] at this
  exact this
theorem sumS_tt {w1 p1 w2 p2 prec : Int} {wy : Way} {s1 m1 e1 s2 m2 e2 : Int} {k1 k2 : Nat} (h1 : w1 = sv s1 m1 * 2 ^ k1) (h2 : w2 = sv s2 m2 * 2 ^ k2) (he1 : e1 = p1 + k1) (he2 : e2 = p2 + k2) :
    sumS w1 p1 w2 p2 prec wy = addS s1 m1 e1 s2 m2 e2 prec wy := by
  unfold sumS addS
  have hD : ∃ D : Nat, min e1 e2 = min p1 p2 + D := ⟨(min e1 e2 - min p1 p2).toNat, by omega⟩
  obtain ⟨D, hD⟩ := hD
  have a1 : w1 * 2 ^ (p1 - min p1 p2).toNat = sv s1 m1 * 2 ^ (e1 - min e1 e2).toNat * 2 ^ D := by
    rw [h1, Int.mul_assoc, Int.mul_assoc, ← Int.pow_add, ← Int.pow_add]
    congr 2
    omega
  have a2 : w2 * 2 ^ (p2 - min p1 p2).toNat = sv s2 m2 * 2 ^ (e2 - min e1 e2).toNat * 2 ^ D := by
    rw [h2, Int.mul_assoc, Int.mul_assoc, ← Int.pow_add, ← Int.pow_add]
    congr 2
    omega
  rw [← addX_k hD, a1, a2, ← Int.add_mul]
theorem sv_neg {s m : Int} (h : s = 0 ∨ s = 1) : sv (1 - s) m = -sv s m := by
  rcases h with rfl | rfl <;> simp [sv]
theorem xor_01 {s u : Int} (hs : s = 0 ∨ s = 1) (hu : u = 0 ∨ u = 1) : Builtin.bitXor s u = if u = 1 then 1 - s else s := by
  rcases hs with rfl | rfl <;> rcases hu with rfl | rfl <;> decide
end Mine
namespace Mine

def UpZ (wy : Way) (whole : Int) (n : Nat) (k : Nat) : Prop := match wy with
  | .n => 2 ^ k < 2 * (n : Int).fmod (2 ^ k) ∨ (2 * (n : Int).fmod (2 ^ k) = 2 ^ k ∧ ((n : Int).fdiv (2 ^ k)).fmod 2 = 1)
  | .f => whole < 0
  | .c => 0 < whole
  | .u => True
  | .d => False

theorem fmod_nat (n k : Nat) : (n : Int).fmod (2 ^ k) = ((n % 2 ^ k : Nat) : Int) := by
  rw [Int.fmod_eq_emod_of_nonneg _ (Int.le_of_lt (Int.pow_pos (by decide)))]
  norm_cast
theorem fdiv_nat' (n k : Nat) : (n : Int).fdiv (2 ^ k) = ((n / 2 ^ k : Nat) : Int) := by
  rw [fdiv_nat (by omega), Int.natAbs_natCast]
theorem pow_nat (k : Nat) : (2 : Int) ^ k = ((2 ^ k : Nat) : Int) := by rw [Int.natCast_pow]; rfl

theorem up_iff {wy : Way} {whole : Int} {n k : Nat} (hn : n = whole.natAbs) (h0 : 0 < n) :
    rup wy (if whole < 0 then 1 else 0) (n / 2 ^ k) (n % 2 ^ k) (2 ^ k) = true ↔ UpZ wy whole n k := by
  cases wy <;> unfold rup UpZ <;> simp only [Bool.or_eq_true, Bool.and_eq_true, decide_eq_true_eq]
  · rw [fmod_nat, fdiv_nat', pow_nat, Int.fmod_eq_emod_of_nonneg _ (by decide)]
    omega
  · split <;> omega
  · split <;> omega
  · simp

section
variable {wy : Way} {whole power most : Int} {n : Nat} (hn : n = whole.natAbs)
include hn

theorem R_small (hc : (Builtin.Int.intBits (n : Int) : Int) - most ≤ 0) : rounded whole power most wy = told whole power := by
  rw [bits_eq, Int.natAbs_natCast] at hc
  unfold rounded roundedN told
  rw [← hn, if_pos (by omega)]
theorem R_gen (hm : 0 ≤ most) (hc : ¬ (Builtin.Int.intBits (n : Int) : Int) - most ≤ 0) {q : Nat} (hq : rlow wy (if whole < 0 then 1 else 0) n ((Builtin.Int.intBits (n : Int) : Int) - most).toNat = q) :
    rounded whole power most wy = told (if whole < 0 then -(q : Int) else q) (power + ((Builtin.Int.intBits (n : Int) : Int) - most)) := by
  have hb : (Builtin.Int.intBits (n : Int) : Int) = (bl n : Int) := by rw [bits_eq, Int.natAbs_natCast]
  rw [hb] at hc hq ⊢
  unfold rounded roundedN told
  rw [← hn, if_neg (by omega), hq]
  by_cases hw : whole < 0
  · simp only [if_pos hw, Int.natAbs_neg, Int.natAbs_natCast]
    by_cases hz : q = 0
    · rw [hz, toldN_zero, toldN_zero]
    · rw [if_pos (by omega)]
  · simp only [if_neg hw, Int.natAbs_natCast]
    rw [if_neg (by omega)]
theorem n_pos (hm : 0 ≤ most) (hc : ¬ (Builtin.Int.intBits (n : Int) : Int) - most ≤ 0) : 0 < n := by
  rcases Nat.eq_zero_or_pos n with e | e
  · rw [e] at hc
    exact absurd (show (Builtin.Int.intBits ((0 : Nat) : Int) : Int) - most ≤ 0 by rw [show (Builtin.Int.intBits ((0 : Nat) : Int)) = 0 from rfl]; omega) hc
  · exact e
theorem R_up (hm : 0 ≤ most) (hc : ¬ (Builtin.Int.intBits (n : Int) : Int) - most ≤ 0) (hr : 0 < (n : Int).fmod (2 ^ ((Builtin.Int.intBits (n : Int) : Int) - most).toNat)) (hu : UpZ wy whole n ((Builtin.Int.intBits (n : Int) : Int) - most).toNat) :
    rlow wy (if whole < 0 then 1 else 0) n ((Builtin.Int.intBits (n : Int) : Int) - most).toNat = n / 2 ^ ((Builtin.Int.intBits (n : Int) : Int) - most).toNat + 1 := by
  unfold rlow
  rw [fmod_nat] at hr
  rw [if_pos ⟨by omega, (up_iff hn (n_pos hn hm hc)).mpr hu⟩]
theorem R_dn (hm : 0 ≤ most) (hc : ¬ (Builtin.Int.intBits (n : Int) : Int) - most ≤ 0) (hno : 0 < (n : Int).fmod (2 ^ ((Builtin.Int.intBits (n : Int) : Int) - most).toNat) → UpZ wy whole n ((Builtin.Int.intBits (n : Int) : Int) - most).toNat → False) :
    rlow wy (if whole < 0 then 1 else 0) n ((Builtin.Int.intBits (n : Int) : Int) - most).toNat = n / 2 ^ ((Builtin.Int.intBits (n : Int) : Int) - most).toNat := by
  unfold rlow
  rw [if_neg]
  rintro ⟨h1, h2⟩
  refine hno ?_ ((up_iff hn (n_pos hn hm hc)).mp h2)
  rw [fmod_nat]
  omega

variable (hm : 0 ≤ most) (hc : ¬ (Builtin.Int.intBits (n : Int) : Int) - most ≤ 0)
include hm hc
theorem U_neg (hr : 0 < (n : Int).fmod (2 ^ ((Builtin.Int.intBits (n : Int) : Int) - most).toNat)) (hw : whole < 0) (hu : UpZ wy whole n ((Builtin.Int.intBits (n : Int) : Int) - most).toNat) :
    rounded whole power most wy = told (-((n : Int).fdiv (2 ^ ((Builtin.Int.intBits (n : Int) : Int) - most).toNat) + 1)) (power + ((Builtin.Int.intBits (n : Int) : Int) - most)) := by
  rw [R_gen hn hm hc (R_up hn hm hc hr hu), if_pos hw, fdiv_nat']
  rfl
theorem U_pos (hr : 0 < (n : Int).fmod (2 ^ ((Builtin.Int.intBits (n : Int) : Int) - most).toNat)) (hw : ¬ whole < 0) (hu : UpZ wy whole n ((Builtin.Int.intBits (n : Int) : Int) - most).toNat) :
    rounded whole power most wy = told ((n : Int).fdiv (2 ^ ((Builtin.Int.intBits (n : Int) : Int) - most).toNat) + 1) (power + ((Builtin.Int.intBits (n : Int) : Int) - most)) := by
  rw [R_gen hn hm hc (R_up hn hm hc hr hu), if_neg hw, fdiv_nat']
  rfl
theorem D_neg (hw : whole < 0) (hno : 0 < (n : Int).fmod (2 ^ ((Builtin.Int.intBits (n : Int) : Int) - most).toNat) → UpZ wy whole n ((Builtin.Int.intBits (n : Int) : Int) - most).toNat → False) :
    rounded whole power most wy = told (-((n : Int).fdiv (2 ^ ((Builtin.Int.intBits (n : Int) : Int) - most).toNat))) (power + ((Builtin.Int.intBits (n : Int) : Int) - most)) := by
  rw [R_gen hn hm hc (R_dn hn hm hc hno), if_pos hw, fdiv_nat']
theorem D_pos (hw : ¬ whole < 0) (hno : 0 < (n : Int).fmod (2 ^ ((Builtin.Int.intBits (n : Int) : Int) - most).toNat) → UpZ wy whole n ((Builtin.Int.intBits (n : Int) : Int) - most).toNat → False) :
    rounded whole power most wy = told ((n : Int).fdiv (2 ^ ((Builtin.Int.intBits (n : Int) : Int) - most).toNat)) (power + ((Builtin.Int.intBits (n : Int) : Int) - most)) := by
  rw [R_gen hn hm hc (R_dn hn hm hc hno), if_neg hw, fdiv_nat']
end

section
variable {whole : Int} {n k : Nat}
theorem up_n1 (h : 2 ^ k < 2 * (n : Int).fmod (2 ^ k)) : UpZ .n whole n k := .inl h
theorem up_n2 (h : 2 * (n : Int).fmod (2 ^ k) = 2 ^ k) (h' : ((n : Int).fdiv (2 ^ k)).fmod 2 = 1) : UpZ .n whole n k := .inr ⟨h, h'⟩
theorem up_f (h : whole < 0) : UpZ .f whole n k := h
theorem up_c (h : 0 < whole) : UpZ .c whole n k := h
theorem up_u : UpZ .u whole n k := trivial
theorem dn_0 {P : Prop} (h : ¬ 0 < (n : Int).fmod (2 ^ k)) : 0 < (n : Int).fmod (2 ^ k) → P → False := fun x _ => h x
theorem dn_n1 {P : Prop} (h : ¬ 2 ^ k < 2 * (n : Int).fmod (2 ^ k)) (h' : 2 * (n : Int).fmod (2 ^ k) ≠ 2 ^ k) : P → UpZ .n whole n k → False := fun _ x => x.elim h fun y => h' y.1
theorem dn_n2 {P : Prop} (h : ¬ 2 ^ k < 2 * (n : Int).fmod (2 ^ k)) (h' : ((n : Int).fdiv (2 ^ k)).fmod 2 ≠ 1) : P → UpZ .n whole n k → False := fun _ x => x.elim h fun y => h' y.2
theorem dn_f {P : Prop} (h : ¬ whole < 0) : P → UpZ .f whole n k → False := fun _ x => h x
theorem dn_c {P : Prop} (h : ¬ 0 < whole) : P → UpZ .c whole n k → False := fun _ x => h x
theorem dn_d {P : Prop} : P → UpZ .d whole n k → False := fun _ x => x
theorem not_neg (h : 0 < whole) : ¬ whole < 0 := by omega
end
end Mine
namespace Mine
theorem w64 {W : Int} (h1 : -500000 ≤ W) (h2 : W ≤ 500002) : W.natAbs < 2 ^ 64 := by omega
theorem p_lo {P : Int} (h : -350 ≤ P) : -4000 ≤ P := by omega
theorem p_hi {P : Int} (h : P ≤ 350) : P ≤ 4000 := by omega
theorem m_hi {x : Int} (h : x ≤ 60) : x ≤ 5000 := by omega
theorem e_lo1 {P1 P2 l : Int} (h : l = min P1 P2) : 0 ≤ P1 - l := by omega
theorem e_lo2 {P1 P2 l : Int} (h : l = min P1 P2) : 0 ≤ P2 - l := by omega
theorem e_hi1 {P1 P2 l : Int} (h : l = min P1 P2) (h1 : -350 ≤ P1) (h2 : P1 ≤ 350) (h3 : -350 ≤ P2) (h4 : P2 ≤ 350) : P1 - l ≤ 1000000 := by omega
theorem e_hi2 {P1 P2 l : Int} (h : l = min P1 P2) (h1 : -350 ≤ P1) (h2 : P1 ≤ 350) (h3 : -350 ≤ P2) (h4 : P2 ≤ 350) : P2 - l ≤ 1000000 := by omega
theorem ok_w {W x : Int} (h1 : -500000 ≤ W) (h2 : W ≤ 500002) : IntMulOk W x := IntMulOk.of_left (by
  have := bl_le (w64 h1 h2)
  have e := bits_eq W
  omega)

theorem nat_big {W : Int} {k : Nat} (h1 : -500000 ≤ W) (h2 : W ≤ 500002) (hk : k ≤ 700) : (W * 2 ^ k).natAbs < 2 ^ 764 := by
  rw [Int.natAbs_mul, show (764 : Nat) = 64 + 700 from rfl, Nat.pow_add]
  have e : (2 ^ k : Int).natAbs = 2 ^ k := by
    rw [Int.natAbs_pow]
    rfl
  rw [e]
  exact Nat.lt_of_lt_of_le (Nat.mul_lt_mul_of_pos_right (w64 h1 h2) (Nat.two_pow_pos k)) (Nat.mul_le_mul_left _ (Nat.pow_le_pow_right (by decide) hk))
theorem big_a {A B W1 W2 P1 P2 l : Int} (hA : A = W1 * 2 ^ (P1 - l).toNat) (hB : B = W2 * 2 ^ (P2 - l).toNat) (hl : l = min P1 P2) (h1 : -500000 ≤ W1) (h2 : W1 ≤ 500002) (h3 : -500000 ≤ W2) (h4 : W2 ≤ 500002) (p1 : -350 ≤ P1) (p2 : P1 ≤ 350) (p3 : -350 ≤ P2) (p4 : P2 ≤ 350) :
    A.natAbs < 2 ^ 764 ∧ B.natAbs < 2 ^ 764 := by
  subst hA hB
  exact ⟨nat_big h1 h2 (by omega), nat_big h3 h4 (by omega)⟩
theorem pow_dbl (k : Nat) : 2 ^ k + 2 ^ k = 2 ^ (k + 1) := by
  rw [Nat.pow_succ]
  omega
theorem pow_step : (2 : Nat) ^ 764 + 2 ^ 764 ≤ 2 ^ 3000 := by
  rw [pow_dbl]
  exact Nat.pow_le_pow_right (by decide) (by decide)
theorem big_add {A B : Int} (h : A.natAbs < 2 ^ 764 ∧ B.natAbs < 2 ^ 764) : (A + B).natAbs < 2 ^ 3000 := by
  refine Nat.lt_of_lt_of_le ?_ pow_step
  have := Int.natAbs_add_le A B
  generalize 2 ^ 764 = K at *
  omega
theorem big_sub {A B : Int} (h : A.natAbs < 2 ^ 764 ∧ B.natAbs < 2 ^ 764) : (A - B).natAbs < 2 ^ 3000 := by
  refine Nat.lt_of_lt_of_le ?_ pow_step
  have := Int.natAbs_sub_le A B
  generalize 2 ^ 764 = K at *
  omega

section
variable {A B W1 W2 P1 P2 l most : Int} {wy : Way} (hA : A = W1 * 2 ^ (P1 - l).toNat) (hB : B = W2 * 2 ^ (P2 - l).toNat) (hl : l = min P1 P2)
include hA hB hl
theorem law_back (hm : 0 < most) : sumS W2 P2 (if (0 : Int) = 1 then -W1 else W1) P1 most wy = rounded (A + B) l most wy := by
  unfold sumS addX
  rw [if_neg (by omega), if_neg (by decide), Int.min_comm, ← hl, ← hA, ← hB, Int.add_comm]
theorem law_add_r (hm : 0 < most) : sumS W1 P1 (if (0 : Int) = 1 then -W2 else W2) P2 most wy = rounded (A + B) l most wy := by
  unfold sumS addX
  rw [if_neg (by omega), if_neg (by decide), ← hl, ← hA, ← hB]
theorem law_add_t (h0 : 0 ≤ most) (hm : ¬ 0 < most) : sumS W1 P1 (if (0 : Int) = 1 then -W2 else W2) P2 most wy = told (A + B) l := by
  unfold sumS addX
  rw [if_pos (by omega), if_neg (by decide), ← hl, ← hA, ← hB]
theorem law_sub_r (hm : 0 < most) : sumS W1 P1 (-W2) P2 most wy = rounded (A - B) l most wy := by
  unfold sumS addX
  rw [if_neg (by omega), ← hl, ← hA, Int.neg_mul, ← hB, Int.sub_eq_add_neg]
theorem law_sub_t (h0 : 0 ≤ most) (hm : ¬ 0 < most) : sumS W1 P1 (-W2) P2 most wy = told (A - B) l := by
  unfold sumS addX
  rw [if_pos (by omega), ← hl, ← hA, Int.neg_mul, ← hB, Int.sub_eq_add_neg]
end
end Mine
namespace Mine

abbrev LN : List PySem.Str := [Str.ofString "round_fast", Str.ofString "fzero", Str.ofString "fnan", Str.ofString "finf", Str.ofString "fninf", Str.ofString "shifts_down", Str.ofString "from_man_exp", Str.ofString "mpf_neg", Str.ofString "mpf_add", Str.ofString "mpf_sub"]

abbrev RetP : Type := Heap → Addr → (PySem.Str → Option Value) → List (Addr × Obj) → Shared → (Value → Shared → Prop) → Prop
abbrev RetI (x : Int) : RetP := fun h₀ L m news s Q => ∀ (t : Tok) (h' : Heap) (tk' : Nat), Fr h₀ L h' m → News h₀ L h' news → Q (.int x t) { s with heap := h', toks := tk' }

def TupIn (news : List (Addr × Obj)) (v : Value) (q : Q4) : Prop :=
  ∃ a, v = .ref a ∧ ((∃ t1 t2 t3 t4 c, (a, ({ cls := .type "tuple", data := .seq #[.int q.1 t1, .int q.2.1 t2, .int q.2.2.1 t3, .int q.2.2.2 t4] c } : Obj)) ∈ news) ∨ (a = 22 ∧ q = (0, 0, 0, 0)))
abbrev RetT (q : Q4) : RetP := fun h₀ L m news s Q => ∀ (v : Value) (tl : List (Addr × Obj)) (h' : Heap) (tk' : Nat), Fr h₀ L h' m → News h₀ L h' (tl ++ news) → TupIn tl v q → Q v { s with heap := h', toks := tk' }

/-- as TupIn, and a nought is the project's own one -/
def TupU (news : List (Addr × Obj)) (v : Value) (q : Q4) : Prop := TupIn news v q ∧ (q = (0, 0, 0, 0) → v = .ref 22)
abbrev RetU (q : Q4) : RetP := fun h₀ L m news s Q => ∀ (v : Value) (tl : List (Addr × Obj)) (h' : Heap) (tk' : Nat), Fr h₀ L h' m → News h₀ L h' (tl ++ news) → TupU tl v q → Q v { s with heap := h', toks := tk' }

/-- what a call of the def at f answers -/
def Tell (w : World) (s₀ : Shared) (mg mb : PySem.Str → Option Value) (f : Addr) (sz : Nat) (vs : List Value) (led : List (Addr × Obj) → Prop) (ret : RetP) : Prop :=
  ∀ (dp un : Nat) (gd : Option (List Code)) (cn : PySem.Str) (cs : Scope) (a : Addr) (ccd : Value) (cl : List (PySem.Str × Addr)) (outer : List Env) (A₀ : Around) (base h₀ : Heap) (L : Addr) (m : PySem.Str → Option Value) (news : List (Addr × Obj)) (s : Shared) (Q E : Value → Shared → Prop),
    Below A₀ base outer h₀ → Fr h₀ L s.heap m → (Mine.hd.heap_39 w.params).In h₀ → News h₀ L s.heap news → Top hd.view_39 (looseW hd.view_39 LN) (ExcName.means s₀.heap) mg mb h₀ → cs.kind = .function → led news → dp + sz < recursionLimit → un + 8 * sz < cLine →
    ret h₀ L m news s Q → wpAny (model PySem.Challenge.rw_bw0024_01.row.prog w) (ktrTop dp un gd cn cs L a ccd cl outer) (call (.ref f) vs) Q E s

theorem retI_end {h₀ h' : Heap} {L : Addr} {m : PySem.Str → Option Value} {news : List (Addr × Obj)} {s : Shared} {Q : Value → Shared → Prop} {x y : Int} {t : Tok} {tk' : Nat}
    (hret : ∀ (t : Tok) (h' : Heap) (tk' : Nat), Fr h₀ L h' m → News h₀ L h' news → Q (.int x t) { s with heap := h', toks := tk' }) (e : x = y) (F : Fr h₀ L h' m) (N : News h₀ L h' news) : Q (.int y t) { s with heap := h', toks := tk' } := by
  subst e
  exact hret t h' tk' F N

local macro_rules | `(tactic| tb_start) => `(tactic| repeat' (first | (k_unfold; (try dsimp only)) | (k_end; wrow_close) | (walk1; try dsimp only) | (dsimp only; walk1) | (leave1; walk_say "STEP leave1"; try dsimp only) | fail "no step"))
set_option maxHeartbeats 4000000 in
theorem trailing_c (w : World) (s₀ : Shared) (mg mb : PySem.Str → Option Value) (n : Int) (tn : Tok) (hn : 0 < n) : Tell w s₀ mg mb 21 1 [.int n tn] (fun _ => True) (RetI (tz n.natAbs : Int)) := by
  unfold Tell RetI
  intro dp un gd cn cs a ccd cl outer A₀ base h₀ L m news s Q E B F X N T hk hled hd hu hret
  w_on
  refine wpAny_call ?_
  k_dflt cell_enter
  tb_start
  · exact retI_end hret (trailing_eq hn).symm (by assumption) (by assumption)
  · exact absurd (by assumption : n = 0) (by omega)

theorem useT {w : World} {s₀ : Shared} {mg mb : PySem.Str → Option Value} {f : Addr} {sz : Nat} {vs : List Value} {led : List (Addr × Obj) → Prop} {x : Q4}
    (C : Tell w s₀ mg mb f sz vs led (RetT x)) {dp un : Nat} {gd : Option (List Code)} {cn : PySem.Str} {cs : Scope} {a : Addr} {ccd : Value} {cl : List (PySem.Str × Addr)} {outer : List Env} {A₀ : Around} {base h₀ : Heap} {L : Addr} {m : PySem.Str → Option Value} {news : List (Addr × Obj)} {s : Shared} {Q E : Value → Shared → Prop}
    (B : Below A₀ base outer h₀) (F : Fr h₀ L s.heap m) (X : (Mine.hd.heap_39 w.params).In h₀) (N : News h₀ L s.heap news) (T : Top hd.view_39 (looseW hd.view_39 LN) (ExcName.means s₀.heap) mg mb h₀) (hk : cs.kind = .function) (hl : led news) (hd : dp + sz < recursionLimit) (hu : un + 8 * sz < cLine)
    (hret : ∀ (v : Value) (tl : List (Addr × Obj)) (h' : Heap) (tk' : Nat), Fr h₀ L h' m → News h₀ L h' (tl ++ news) → TupIn tl v x → Q v { s with heap := h', toks := tk' }) :
    wpAny (model PySem.Challenge.rw_bw0024_01.row.prog w) (ktrTop dp un gd cn cs L a ccd cl outer) (call (.ref f) vs) Q E s :=
  C dp un gd cn cs a ccd cl outer A₀ base h₀ L m news s Q E B F X N T hk hl hd hu hret

theorem retT_end {h₀ h' : Heap} {L D : Addr} {m : PySem.Str → Option Value} {news news' : List (Addr × Obj)} {s : Shared} {Q : Value → Shared → Prop} {q : Q4} {i1 i2 i3 i4 : Int} {t1 t2 t3 t4 : Tok} {c : Nat} {tk' : Nat}
    (hret : ∀ (v : Value) (tl : List (Addr × Obj)) (h' : Heap) (tk' : Nat), Fr h₀ L h' m → News h₀ L h' (tl ++ news) → TupIn tl v q → Q v { s with heap := h', toks := tk' })
    (F : Fr h₀ L h' m) (N : News h₀ L h' news') (hm : (D, ({ cls := .type "tuple", data := .seq #[.int i1 t1, .int i2 t2, .int i3 t3, .int i4 t4] c } : Obj)) ∈ news') (hs : ∀ p ∈ news, p ∈ news') (e : q = (i1, i2, i3, i4)) : Q (.ref D) { s with heap := h', toks := tk' } := by
  subst e
  refine hret (.ref D) [_] h' tk' F (fun p hp => N p ?_) ⟨D, rfl, .inl ⟨t1, t2, t3, t4, c, .head _⟩⟩
  rcases List.mem_cons.mp hp with rfl | hp
  · exact hm
  · exact hs p hp
theorem retT_zero {h₀ h' : Heap} {L : Addr} {m : PySem.Str → Option Value} {news : List (Addr × Obj)} {s : Shared} {Q : Value → Shared → Prop} {q : Q4} {tk' : Nat}
    (hret : ∀ (v : Value) (tl : List (Addr × Obj)) (h' : Heap) (tk' : Nat), Fr h₀ L h' m → News h₀ L h' (tl ++ news) → TupIn tl v q → Q v { s with heap := h', toks := tk' }) 
    (F : Fr h₀ L h' m) (N : News h₀ L h' news) (e : q = (0, 0, 0, 0)) : Q (.ref 22) { s with heap := h', toks := tk' } :=
  hret (.ref 22) [] h' tk' F N ⟨22, rfl, .inr ⟨rfl, e⟩⟩

theorem useU {w : World} {s₀ : Shared} {mg mb : PySem.Str → Option Value} {f : Addr} {sz : Nat} {vs : List Value} {led : List (Addr × Obj) → Prop} {x : Q4}
    (C : Tell w s₀ mg mb f sz vs led (RetU x)) {dp un : Nat} {gd : Option (List Code)} {cn : PySem.Str} {cs : Scope} {a : Addr} {ccd : Value} {cl : List (PySem.Str × Addr)} {outer : List Env} {A₀ : Around} {base h₀ : Heap} {L : Addr} {m : PySem.Str → Option Value} {news : List (Addr × Obj)} {s : Shared} {Q E : Value → Shared → Prop}
    (B : Below A₀ base outer h₀) (F : Fr h₀ L s.heap m) (X : (Mine.hd.heap_39 w.params).In h₀) (N : News h₀ L s.heap news) (T : Top hd.view_39 (looseW hd.view_39 LN) (ExcName.means s₀.heap) mg mb h₀) (hk : cs.kind = .function) (hl : led news) (hd : dp + sz < recursionLimit) (hu : un + 8 * sz < cLine)
    (hret : ∀ (v : Value) (tl : List (Addr × Obj)) (h' : Heap) (tk' : Nat), Fr h₀ L h' m → News h₀ L h' (tl ++ news) → TupU tl v x → Q v { s with heap := h', toks := tk' }) :
    wpAny (model PySem.Challenge.rw_bw0024_01.row.prog w) (ktrTop dp un gd cn cs L a ccd cl outer) (call (.ref f) vs) Q E s :=
  C dp un gd cn cs a ccd cl outer A₀ base h₀ L m news s Q E B F X N T hk hl hd hu hret

theorem retU_end {h₀ h' : Heap} {L D : Addr} {m : PySem.Str → Option Value} {news news' : List (Addr × Obj)} {s : Shared} {Q : Value → Shared → Prop} {q : Q4} {i1 i2 i3 i4 : Int} {t1 t2 t3 t4 : Tok} {c : Nat} {tk' : Nat}
    (hret : ∀ (v : Value) (tl : List (Addr × Obj)) (h' : Heap) (tk' : Nat), Fr h₀ L h' m → News h₀ L h' (tl ++ news) → TupU tl v q → Q v { s with heap := h', toks := tk' })
    (F : Fr h₀ L h' m) (N : News h₀ L h' news') (hm : (D, ({ cls := .type "tuple", data := .seq #[.int i1 t1, .int i2 t2, .int i3 t3, .int i4 t4] c } : Obj)) ∈ news') (hs : ∀ p ∈ news, p ∈ news') (hne : q ≠ (0, 0, 0, 0)) (e : q = (i1, i2, i3, i4)) : Q (.ref D) { s with heap := h', toks := tk' } := by
  subst e
  refine hret (.ref D) [_] h' tk' F (fun p hp => N p ?_) ⟨⟨D, rfl, .inl ⟨t1, t2, t3, t4, c, .head _⟩⟩, fun z => absurd z hne⟩
  rcases List.mem_cons.mp hp with rfl | hp
  · exact hm
  · exact hs p hp
theorem retU_zero {h₀ h' : Heap} {L : Addr} {m : PySem.Str → Option Value} {news : List (Addr × Obj)} {s : Shared} {Q : Value → Shared → Prop} {q : Q4} {tk' : Nat}
    (hret : ∀ (v : Value) (tl : List (Addr × Obj)) (h' : Heap) (tk' : Nat), Fr h₀ L h' m → News h₀ L h' (tl ++ news) → TupU tl v q → Q v { s with heap := h', toks := tk' }) 
    (F : Fr h₀ L h' m) (N : News h₀ L h' news) (e : q = (0, 0, 0, 0)) : Q (.ref 22) { s with heap := h', toks := tk' } :=
  hret (.ref 22) [] h' tk' F N ⟨⟨22, rfl, .inr ⟨rfl, e⟩⟩, fun _ => rfl⟩

theorem retT_pass {h₀ h' : Heap} {L : Addr} {m : PySem.Str → Option Value} {news tl : List (Addr × Obj)} {s : Shared} {Q : Value → Shared → Prop} {q : Q4} {v : Value} {tk' : Nat}
    (hret : ∀ (v : Value) (tl : List (Addr × Obj)) (h' : Heap) (tk' : Nat), Fr h₀ L h' m → News h₀ L h' (tl ++ news) → TupIn tl v q → Q v { s with heap := h', toks := tk' })
    (F : Fr h₀ L h' m) (N : News h₀ L h' (tl ++ news)) (hT : TupIn tl v q) : Q v { s with heap := h', toks := tk' } := hret v tl h' tk' F N hT

theorem retT_eq {h₀ h' : Heap} {L : Addr} {m : PySem.Str → Option Value} {news tl : List (Addr × Obj)} {s : Shared} {Q : Value → Shared → Prop} {q q' : Q4} {v : Value} {tk' : Nat}
    (hret : ∀ (v : Value) (tl : List (Addr × Obj)) (h' : Heap) (tk' : Nat), Fr h₀ L h' m → News h₀ L h' (tl ++ news) → TupIn tl v q → Q v { s with heap := h', toks := tk' })
    (F : Fr h₀ L h' m) (N : News h₀ L h' (tl ++ news)) (hT : TupIn tl v q') (e : q = q') : Q v { s with heap := h', toks := tk' } := by
  subst e
  exact hret v tl h' tk' F N hT

theorem useI {w : World} {s₀ : Shared} {mg mb : PySem.Str → Option Value} {f : Addr} {sz : Nat} {vs : List Value} {led : List (Addr × Obj) → Prop} {x : Int}
    (C : Tell w s₀ mg mb f sz vs led (RetI x)) {dp un : Nat} {gd : Option (List Code)} {cn : PySem.Str} {cs : Scope} {a : Addr} {ccd : Value} {cl : List (PySem.Str × Addr)} {outer : List Env} {A₀ : Around} {base h₀ : Heap} {L : Addr} {m : PySem.Str → Option Value} {news : List (Addr × Obj)} {s : Shared} {Q E : Value → Shared → Prop}
    (B : Below A₀ base outer h₀) (F : Fr h₀ L s.heap m) (X : (Mine.hd.heap_39 w.params).In h₀) (N : News h₀ L s.heap news) (T : Top hd.view_39 (looseW hd.view_39 LN) (ExcName.means s₀.heap) mg mb h₀) (hk : cs.kind = .function) (hl : led news) (hd : dp + sz < recursionLimit) (hu : un + 8 * sz < cLine)
    (hret : ∀ (t : Tok) (h' : Heap) (tk' : Nat), Fr h₀ L h' m → News h₀ L h' news → Q (.int x t) { s with heap := h', toks := tk' }) :
    wpAny (model PySem.Challenge.rw_bw0024_01.row.prog w) (ktrTop dp un gd cn cs L a ccd cl outer) (call (.ref f) vs) Q E s :=
  C dp un gd cn cs a ccd cl outer A₀ base h₀ L m news s Q E B F X N T hk hl hd hu hret
end Mine
namespace Mine
local macro_rules | `(tactic| walk_at "call ref") => `(tactic| (k_here; (with_reducible show wpAny _ _ (call (Value.ref 21) [Value.int _ _]) _ _ _); k_dflt (refine' useI (trailing_c _ _ _ _ _ _ ?kn) ?k1 ?k2 ?k3 ?k4 ?k5 ?kK ?kl ?kd ?ku ?_; (case k1 => k_asm); (case k2 => k_asm); (case k3 => k_asm); (case k4 => k_asm); (case k5 => k_asm); (case kK => first | exact rfl | assumption); (case kl => trivial); (case kd => ktr_room); (case ku => ktr_units); (case kn => tb_rel); intro t9 h9 tk9 F9 N9; (try dsimp only); (try k_fold))))
local macro_rules | `(tactic| tb_start) => `(tactic| repeat' (first | (k_unfold; (try dsimp only)) | (k_end; wrow_close) | (walk1; try dsimp only) | (dsimp only; walk1) | (leave1; walk_say "STEP leave1"; try dsimp only) | fail "no step"))
local macro_rules | `(tactic| kwd_rel) => `(tactic| first
  | with_reducible exact small (by assumption) (by assumption) (by assumption) (by assumption)
  | with_reducible exact g_n1 (by assumption) (by assumption) (by assumption) (by assumption) (by assumption) (by assumption) (by assumption)
  | with_reducible exact g_n2 (by assumption) (by assumption) (by assumption) (by assumption) (by assumption) (by assumption) (by assumption)
  | with_reducible exact g_n3 (by assumption) (by assumption) (by assumption) (by assumption) (by assumption) (by assumption) (by assumption)
  | with_reducible exact g_n4 (by assumption) (by assumption) (by assumption) (by assumption) (by assumption) (by assumption)
  | with_reducible exact g_dn (by assumption) (by assumption) (by assumption) (by assumption) (by assumption) (by assumption) (by assumption) (by with_unfolding_all rfl) (by with_unfolding_all rfl)
  | with_reducible exact g_up (by assumption) (by assumption) (by assumption) (by assumption) (by assumption) (by assumption) (by assumption) (by with_unfolding_all rfl) (by with_unfolding_all rfl))
local macro_rules | `(tactic| tb_rel) => `(tactic| first
  | (law_purse 2000 => omega)
  | with_reducible exact p_n1 (by assumption) (by assumption) (by assumption) (by assumption) (by assumption) (by assumption) (by assumption)
  | with_reducible exact p_n2 (by assumption) (by assumption) (by assumption) (by assumption) (by assumption) (by assumption) (by assumption)
  | with_reducible exact p_n3 (by assumption) (by assumption) (by assumption) (by assumption) (by assumption) (by assumption) (by assumption)
  | with_reducible exact p_n4 (by assumption) (by assumption) (by assumption) (by assumption) (by assumption) (by assumption)
  | with_reducible exact p_dn (by assumption) (by assumption) (by assumption) (by assumption) (by assumption)
  | with_reducible exact p_up (by assumption) (by assumption) (by assumption) (by assumption) (by assumption))
local macro_rules | `(tactic| kwd_inv) => `(tactic| first
  | with_reducible exact nought (by assumption) (by assumption)
  | with_reducible exact fin1 (by kwd_rel) (by assumption) (by assumption)
  | with_reducible exact fin2 (by kwd_rel) (by assumption) (by assumption)
  | with_reducible exact fin3 (by kwd_rel) (by assumption) (by assumption)
  | with_reducible exact fin4 (by kwd_rel) (by assumption) (by assumption))

local macro_rules | `(tactic| walk_at "ite") => `(tactic| (k_here; first | (refine ite_pos (by with_reducible assumption) ?_; walk_say "PRUNED") | (refine ite_neg (by with_reducible assumption) ?_; walk_say "PRUNED") | with_reducible refine ite_tt ?_ | with_reducible refine ite_ff ?_ | (with_reducible refine split_ine ?_ ?_ <;> intro _) | (with_reducible refine split_ieq ?_ ?_ <;> intro _) | with_reducible refine split_not ?_))


set_option maxHeartbeats 8000000 in
theorem normalize0_c (w : World) (s₀ : Shared) (mg mb : PySem.Str → Option Value) (sign man exp bc prec : Int) (wy : Way) (t1 t2 t3 t4 t5 t6 : Tok)
    (hs : sign = 0 ∨ sign = 1) (hm : 0 ≤ man) (hp : man = 0 ∨ 1 ≤ prec) (hp0 : 0 ≤ prec) (hb : bc = bl man.natAbs) (hbs : bc ≤ 100000) :
    Tell w s₀ mg mb 37 2 [.int sign t1, .int man t2, .int exp t3, .int bc t4, .int prec t5, .str wy.str t6] (fun _ => True) (RetT (roundedN sign man.natAbs exp prec wy)) := by
  unfold Tell RetT
  intro dp un gd cn cs a ccd cl outer A₀ base h₀ L m news s Q E B F X N T hk hled hd hu hret
  w_on
  cases wy <;> simp only [Way.str] <;> (refine wpAny_call ?_; k_dflt cell_enter; tb_start)
  all_goals first
    | (apply retT_zero (Q := Q) (s := s) hret; (case F => k_asm); (case N => k_asm))
    | (apply retT_end (Q := Q) (s := s) hret; (case F => k_asm); (case N => k_asm); (case hm => k_mem); (case hs => first | exact fun _ h => h | exact fun _ h => List.mem_cons_of_mem _ h | exact fun _ h => List.mem_cons_of_mem _ (List.mem_cons_of_mem _ h)))
  all_goals kwd_inv
end Mine
namespace Mine
local macro_rules | `(tactic| tb_start) => `(tactic| repeat' (first | (k_unfold; (try dsimp only)) | (k_end; wrow_close) | (walk1; try dsimp only) | (dsimp only; walk1) | (leave1; walk_say "STEP leave1"; try dsimp only) | fail "no step"))
local macro_rules | `(tactic| walk_at "call ref") => `(tactic| (k_here; (with_reducible show wpAny _ _ (call (Value.ref 37) [_, _, _, _, _, _]) _ _ _); k_dflt (refine' useT (normalize0_c _ _ _ _ _ _ _ _ _ _ _ _ _ _ _ _ ?n1 ?n2 ?n3 ?n4 ?n5 ?n6) ?k1 ?k2 ?k3 ?k4 ?k5 ?kK ?kl ?kd ?ku ?_; (case k1 => k_asm); (case k2 => k_asm); (case k3 => k_asm); (case k4 => k_asm); (case k5 => k_asm); (case kK => first | exact rfl | assumption); (case kl => trivial); (case kd => ktr_room); (case ku => ktr_units); (case n1 => assumption); (case n2 => assumption); (case n3 => assumption); (case n4 => assumption); (case n5 => assumption); (case n6 => assumption); intro v9 tl9 h9 tk9 F9 N9 hT9; (try dsimp only); (try k_fold))))

set_option maxHeartbeats 8000000 in
theorem normalize_c (w : World) (s₀ : Shared) (mg mb : PySem.Str → Option Value) (sign man exp bc prec : Int) (wy : Way) (t1 t2 t3 t4 t5 t6 : Tok)
    (hs : sign = 0 ∨ sign = 1) (hm : 0 ≤ man) (hp : man = 0 ∨ 1 ≤ prec) (hp0 : 0 ≤ prec) (hb' : bc = Builtin.Int.intBits man) (hbs : bc ≤ 100000) :
    Tell w s₀ mg mb 44 3 [.int sign t1, .int man t2, .int exp t3, .int bc t4, .int prec t5, .str wy.str t6] (fun _ => True) (RetT (roundedN sign man.natAbs exp prec wy)) := by
  unfold Tell RetT
  have hb : bc = bl man.natAbs := by rw [hb', bits_eq]
  intro dp un gd cn cs a ccd cl outer A₀ base h₀ L m news s Q E B F X N T hk hled hd hu hret
  w_on
  refine wpAny_call ?_
  k_dflt cell_enter
  tb_start
  all_goals first
    | (exfalso; exact absurd hb' (by assumption))
    | (apply retT_pass (Q := Q) (s := s) hret; (case F => k_asm); (case N => k_asm); (case hT => assumption))
end Mine
namespace Mine
local macro_rules | `(tactic| tb_start) => `(tactic| repeat' (first | (k_unfold; (try dsimp only)) | (k_end; wrow_close) | (walk1; try dsimp only) | (dsimp only; walk1) | (leave1; walk_say "STEP leave1"; try dsimp only) | fail "no step"))
local macro_rules | `(tactic| kwd_less) => `(tactic| (refine' code_def ?k1 ?k2 ?k3 ?k4 ?k5 ?kA ?kF ?kK ?k6 ?k7 ?k8 ?k9 ?kB ?_ ?c2 ?c3 ?c4 ?c5; (case kA => exact rfl); (case kF => exact rfl); (case kK => assumption); (case k1 => k_asm); (case k2 => k_asm); (case k3 => k_asm); (case k4 => k_asm); (case k5 => k_asm); (case k6 => k_is); (case k7 => k_is); (case k8 => ktr_room); (case k9 => first | exact BindsTo.of_eq rfl | exact binds_K (by k_in) rfl (by k_is) rfl rfl rfl); (case c5 => decide); (case kB => exact locs rfl); (case c2 => exact rfl); (case c3 => exact rfl); (case c4 => exact rfl); k_whole; intro g' L' h' FG' F' N' B' X' T'; (try dsimp only); (try k_lift B'); (try k_fold)))
local macro_rules | `(tactic| walk_at "no such key") => `(tactic| skip)
local macro_rules | `(tactic| walk_at "call ref") => `(tactic| (k_here; (with_reducible show wpAny _ _ (call (Value.ref 21) [Value.int _ _]) _ _ _); k_dflt (refine' useI (trailing_c _ _ _ _ _ _ ?kn) ?k1 ?k2 ?k3 ?k4 ?k5 ?kK ?kl ?kd ?ku ?_; (case k1 => k_asm); (case k2 => k_asm); (case k3 => k_asm); (case k4 => k_asm); (case k5 => k_asm); (case kK => first | exact rfl | assumption); (case kl => trivial); (case kd => ktr_room); (case ku => ktr_units); (case kn => omega); intro t9 h9 tk9 F9 N9; (try dsimp only); (try k_fold))))

local macro_rules | `(tactic| kwd_rel) => `(tactic| first
  | with_reducible exact g'_pos (by omega) (by assumption)
  | with_reducible exact g'_neg (by assumption))
local macro_rules | `(tactic| kwd_inv) => `(tactic| first
  | with_reducible exact t_two (by kwd_rel) (by assumption) (by assumption)
  | with_reducible exact t_odd (by kwd_rel) (by assumption)
  | with_reducible exact t_even (by kwd_rel) (by assumption))

set_option maxHeartbeats 8000000 in
theorem from_man_exp_c (w : World) (s₀ : Shared) (mg mb : PySem.Str → Option Value) (man exp : Int) (t1 t2 : Tok) :
    Tell w s₀ mg mb 52 4 [.int man t1, .int exp t2] (fun _ => True) (RetU (told man exp)) := by
  unfold Tell RetU
  intro dp un gd cn cs a ccd cl outer A₀ base h₀ L m news s Q E B F X N T hk hled hd hu hret
  w_on
  refine wpAny_call ?_
  k_dflt kwd_less
  tb_start
  all_goals first
    | (apply retU_zero (Q := Q) (s := s) hret; (case F => k_asm); (case N => k_asm); (case e => exact told_nought (by omega)))
    | (apply retU_end (Q := Q) (s := s) hret; (case F => k_asm); (case N => k_asm); (case hm => k_mem); (case hne => exact told_ne (by omega)); (case hs => first | exact fun _ h => h | exact fun _ h => List.mem_cons_of_mem _ h))
  all_goals kwd_inv
end Mine
namespace Mine

local macro_rules | `(tactic| tb_start) => `(tactic| repeat' (first | (k_unfold; (try dsimp only)) | (k_end; wrow_close) | (walk1; try dsimp only) | (dsimp only; walk1) | (leave1; walk_say "STEP leave1"; try dsimp only) | fail "no step"))
theorem told_start {whole power : Int} (h : whole ≠ 0) : 0 < (if whole < 0 then -whole else whole) ∧ toldN (if whole < 0 then 1 else 0) (if whole < 0 then -whole else whole).natAbs power = told whole power := by
  unfold told
  split
  · exact ⟨by omega, by rw [Int.natAbs_neg]⟩
  · exact ⟨by omega, rfl⟩
theorem told_turn {side pw size : Int} {q : Q4} (h : size.fmod 2 = 0) (k : 0 < size ∧ toldN side size.natAbs pw = q) : 0 < size.fdiv 2 ∧ toldN side (size.fdiv 2).natAbs (pw + 1) = q := by
  obtain ⟨k0, k1⟩ := k
  rw [Int.fmod_eq_emod_of_nonneg _ (by omega)] at h
  rw [Int.fdiv_eq_ediv_of_nonneg _ (by omega)]
  have e : (size / 2).natAbs = size.natAbs / 2 := by omega
  refine ⟨by omega, ?_⟩
  rw [e, toldN_half (by omega) (by omega), k1]

theorem told_less {size : Int} (k : 0 < size) : (size.fdiv 2).toNat < size.toNat := by
  rw [Int.fdiv_eq_ediv_of_nonneg _ (by omega)]
  omega
theorem told_end {whole power size pw side : Int} (h : size.fmod 2 ≠ 0) (k0 : 0 < size) (k1 : toldN (if whole < 0 then 1 else 0) size.natAbs pw = told whole power) (hs : side = if whole < 0 then 1 else 0) :
    told whole power = (side, size, pw, (Builtin.Int.intBits size : Int)) := by
  rw [Int.fmod_eq_emod_of_nonneg _ (by omega)] at h
  rw [← k1, toldN_odd (by omega), bits_eq, hs]
  simp only [Prod.mk.injEq, true_and, and_true]
  omega
set_option maxHeartbeats 8000000 in
theorem told_c (w : World) (s₀ : Shared) (mg mb : PySem.Str → Option Value) (whole power : Int) (t1 t2 : Tok) :
    Tell w s₀ mg mb 97 1 [.int whole t1, .int power t2] (fun _ => True) (RetT (told whole power)) := by
  unfold Tell RetT
  intro dp un gd cn cs a ccd cl outer A₀ base h₀ L m news s Q E B F X N T hk hled hd hu hret
  w_on
  k_with "exec While Compare cons nil" => k_while (fun _ size pw => 0 < size ∧ toldN (if whole < 0 then 1 else 0) size.natAbs pw = told whole power) (fun _ size _ => size.toNat) "size" "power"
  k_with "state" => first | exact told_start (by assumption) | exact told_turn (by assumption) ⟨by assumption, by assumption⟩
  k_with "measure" => exact told_less (by assumption)
  refine wpAny_call ?_
  k_dflt cell_enter
  tb_start
  all_goals (apply retT_end (Q := Q) (s := s) hret; (case F => k_asm); (case N => k_asm); (case hm => k_mem); (case hs => first | exact fun _ h => h | exact fun _ h => List.mem_cons_of_mem _ h | exact fun _ h => List.mem_cons_of_mem _ (List.mem_cons_of_mem _ h) | exact fun _ h => List.mem_cons_of_mem _ (List.mem_cons_of_mem _ (List.mem_cons_of_mem _ h))))
  all_goals first | exact told_nought (by assumption) | exact told_end (by assumption) (by assumption) (by assumption) (by first | rw [if_pos (by assumption)] | rw [if_neg (by assumption)])
end Mine
namespace Mine

/-- the arguments of the sum's def, bound -/
def AddBinds (w : World) (vs : List Value) (a1 a2 : Addr) (prec : Int) (t3 : Tok) (wy : Way) (t4 : Tok) (u : Int) (t5 : Tok) : Prop :=
  ∀ s : Shared, (Mine.hd.heap_39 w.params).In s.heap → ∃ oc od fd osl, (Mine.hd.heap_39 w.params).lookup 68 = some ⟨oc, od, .func fd, osl⟩ ∧
    BindsTo s fd ⟨vs, []⟩ [(Str.ofString "s", .ref a1), (Str.ofString "t", .ref a2), (Str.ofString "prec", .int prec t3), (Str.ofString "rnd", .str wy.str t4), (Str.ofString "_sub", .int u t5)]
theorem addBinds_use {w : World} {vs : List Value} {a1 a2 : Addr} {prec : Int} {t3 : Tok} {wy : Way} {t4 : Tok} {u : Int} {t5 : Tok} {s : Shared} {oc : Value} {od : Option Addr} {fd : FuncData} {osl : Array (Option Value)} (hb : AddBinds w vs a1 a2 prec t3 wy t4 u t5)
    (X : (Mine.hd.heap_39 w.params).In s.heap) (e : (Mine.hd.heap_39 w.params).lookup 68 = some ⟨oc, od, .func fd, osl⟩) :
    BindsTo s fd ⟨vs, []⟩ [(Str.ofString "s", .ref a1), (Str.ofString "t", .ref a2), (Str.ofString "prec", .int prec t3), (Str.ofString "rnd", .str wy.str t4), (Str.ofString "_sub", .int u t5)] := by
  obtain ⟨oc', od', fd', osl', e', b⟩ := hb s X
  rw [e] at e'
  cases e'
  exact b
theorem addBinds_mk {w : World} {s : Shared} {args : Args} {bs : List (PySem.Str × Value)} {oc : Value} {od : Option Addr} {fd : FuncData} {osl : Array (Option Value)} (e : (Mine.hd.heap_39 w.params).lookup 68 = some ⟨oc, od, .func fd, osl⟩) (b : BindsTo s fd args bs) :
    ∃ oc od fd osl, (Mine.hd.heap_39 w.params).lookup 68 = some ⟨oc, od, .func fd, osl⟩ ∧ BindsTo s fd args bs := ⟨_, _, _, _, e, b⟩
theorem add4 {w : World} {a1 a2 : Addr} {prec : Int} {t3 : Tok} {wy : Way} {t4 : Tok} : AddBinds w [.ref a1, .ref a2, .int prec t3, .str wy.str t4] a1 a2 prec t3 wy t4 0 303 := by
  intro s X
  refine' addBinds_mk ?e ?b
  case e => k_is
  case b => exact binds_K X rfl (by k_is) rfl rfl rfl
theorem add5 {w : World} {a1 a2 : Addr} {prec : Int} {t3 : Tok} {wy : Way} {t4 : Tok} {u : Int} {t5 : Tok} : AddBinds w [.ref a1, .ref a2, .int prec t3, .str wy.str t4, .int u t5] a1 a2 prec t3 wy t4 u t5 := by
  intro s X
  refine' addBinds_mk ?e ?b
  case e => k_is
  case b => exact binds_K X rfl (by k_is) rfl rfl rfl
end Mine
namespace Mine
local macro_rules | `(tactic| tb_start) => `(tactic| repeat' (first | (k_unfold; (try dsimp only)) | (k_end; wrow_close) | (walk1; try dsimp only) | (dsimp only; walk1) | (leave1; walk_say "STEP leave1"; try dsimp only) | fail "no step"))
local macro_rules | `(tactic| kwd_less) => `(tactic| (refine' code_def ?k1 ?k2 ?k3 ?k4 ?k5 ?kA ?kF ?kK ?k6 ?k7 ?k8 ?k9 ?kB ?_ ?c2 ?c3 ?c4 ?c5; (case kA => exact rfl); (case kF => exact rfl); (case kK => assumption); (case k1 => k_asm); (case k2 => k_asm); (case k3 => k_asm); (case k4 => k_asm); (case k5 => k_asm); (case k6 => k_is); (case k7 => k_is); (case k8 => ktr_room); (case k9 => exact addBinds_use (by assumption) (by k_in) (by k_is)); (case c5 => decide); (case kB => exact locs rfl); (case c2 => exact rfl); (case c3 => exact rfl); (case c4 => exact rfl); k_whole; intro g' L' h' FG' F' N' B' X' T'; (try dsimp only); (try k_lift B'); (try k_fold)))
local macro_rules | `(tactic| tb_rel) => `(tactic| first | exact k_gt (by assumption) (by assumption) (by assumption) (by assumption) | exact k_lt_ (by assumption) (by assumption) (by assumption) (by assumption) | exact k_prec (by assumption) (by assumption))
local macro_rules | `(tactic| walk_at "call ref") => `(tactic| (k_here; (with_reducible show wpAny _ _ (call (Value.ref 44) [_, _, _, _, _, _]) _ _ _); k_dflt (refine' useT (normalize_c _ _ _ _ _ _ _ _ _ _ _ _ _ _ _ _ ?n1 ?n2 ?n3 ?n4 ?n5 ?n6) ?k1 ?k2 ?k3 ?k4 ?k5 ?kK ?kl ?kd ?ku ?_; (case k1 => k_asm); (case k2 => k_asm); (case k3 => k_asm); (case k4 => k_asm); (case k5 => k_asm); (case kK => first | exact rfl | assumption); (case kl => trivial); (case kd => ktr_room); (case ku => ktr_units); (case n1 => first | with_reducible assumption | exact .inl rfl | exact .inr rfl); (case n2 => with_reducible first | assumption | exact nn_add (by assumption) (by assumption) | exact nn_add0 (by assumption) (by assumption) | exact nn_neg (by assumption) | exact nn_r (by assumption) (by assumption)); (case n3 => with_reducible first | exact .inr (one_le (by assumption) (by assumption)) | exact bits_or _); (case n4 => with_reducible first | assumption | exact Int.natCast_nonneg _); (case n5 => exact rfl); (case n6 => with_reducible first | exact b_1 (by assumption) (by assumption) (by assumption) (by assumption) (by tb_rel) | exact b_2 (by assumption) (by assumption) (by assumption) (by assumption) (by tb_rel) | exact b_3 (by assumption) (by assumption) (by assumption) (by assumption) (by tb_rel) | exact b_4 (by assumption) (by assumption) (by assumption) (by assumption) (by tb_rel) | exact b_5 (by assumption) (by assumption) (by assumption) (by assumption) (by tb_rel) | exact b_6 (by assumption) (by assumption) (by assumption) (by assumption) | exact b_7 (by assumption) (by assumption) (by assumption) (by assumption) | exact b_8 (by assumption) (by assumption) (by assumption) (by assumption) | exact b_r (by assumption) (by assumption) (by assumption) (by tb_rel));intro v9 tl9 h9 tk9 F9 N9 hT9; (try dsimp only); (try k_fold))))
local macro_rules | `(tactic| walk_at "ite") => `(tactic| (k_here; first | (refine ite_pos (by with_reducible assumption) ?_; walk_say "PRUNED") | (refine ite_neg (by with_reducible assumption) ?_; walk_say "PRUNED") | (refine ite_isFalse (by with_reducible assumption) ?_; walk_say "PRUNED") | with_reducible refine ite_tt ?_ | with_reducible refine ite_ff ?_ | (with_reducible refine split_ine ?_ ?_ <;> intro _) | (with_reducible refine split_ieq ?_ ?_ <;> intro _) | with_reducible refine split_not ?_))
theorem xor_line {prog : Program} {w : World} {A : Around} {E : Value → Shared → Prop} {s : Shared} {a b c : Int} {t u : Tok} {Q : Value → Shared → Prop} (e : Builtin.bitXor a b = c)
    (h : Q (.int c s.toks) { s with toks := s.toks + 1 }) : wpAny (model prog w) A (inplaceOp .BitXor (.int a t) (.int b u)) Q E s := by
  subst e
  exact ixor_int h
local macro_rules | `(tactic| walk_at "inplaceOp BitXor int int") => `(tactic| (k_here; with_reducible refine xor_line (by assumption) ?_))
local macro_rules | `(tactic| kwd_rel) => `(tactic| first | with_reducible exact precA (by assumption) | with_reducible exact precB (by assumption))
local macro_rules | `(tactic| kwd_inv) => `(tactic| first
  | with_reducible exact A_far_gt (by assumption) (by assumption) (by assumption) (by assumption) (by assumption) (by assumption) (by assumption) (by assumption) (by assumption) (by assumption) (by assumption) (by assumption)
  | with_reducible exact A_far_lt (by assumption) (by assumption) (by assumption) (by assumption) (by assumption) (by assumption) (by assumption) (by assumption) (by assumption) (by assumption) (by assumption) (by assumption)
  | with_reducible exact A_gt1 (by assumption) (by assumption) (by assumption) (by assumption) (by assumption) (by assumption) (by assumption) (by kwd_rel)
  | with_reducible exact A_gt2 (by assumption) (by assumption) (by assumption) (by assumption) (by assumption) (by assumption) (by assumption) (by assumption) (by assumption) (by kwd_rel)
  | with_reducible exact A_gt3 (by assumption) (by assumption) (by assumption) (by assumption) (by assumption) (by assumption) (by assumption) (by assumption) (by assumption) (by kwd_rel)
  | with_reducible exact A_gt4 (by assumption) (by assumption) (by assumption) (by assumption) (by assumption) (by assumption) (by assumption) (by assumption) (by assumption) (by kwd_rel)
  | with_reducible exact A_gt5 (by assumption) (by assumption) (by assumption) (by assumption) (by assumption) (by assumption) (by assumption) (by assumption) (by assumption) (by kwd_rel)
  | with_reducible exact A_lt1 (by assumption) (by assumption) (by assumption) (by assumption) (by assumption) (by assumption) (by assumption) (by assumption) (by kwd_rel)
  | with_reducible exact A_lt2 (by assumption) (by assumption) (by assumption) (by assumption) (by assumption) (by assumption) (by assumption) (by assumption) (by assumption) (by assumption) (by kwd_rel)
  | with_reducible exact A_lt3 (by assumption) (by assumption) (by assumption) (by assumption) (by assumption) (by assumption) (by assumption) (by assumption) (by assumption) (by assumption) (by kwd_rel)
  | with_reducible exact A_lt4 (by assumption) (by assumption) (by assumption) (by assumption) (by assumption) (by assumption) (by assumption) (by assumption) (by assumption) (by assumption) (by kwd_rel)
  | with_reducible exact A_lt5 (by assumption) (by assumption) (by assumption) (by assumption) (by assumption) (by assumption) (by assumption) (by assumption) (by assumption) (by assumption) (by kwd_rel)
  | with_reducible exact A_eq1 (by assumption) (by assumption) (by assumption) (by assumption) (by assumption) (by assumption) (by assumption) (by kwd_rel)
  | with_reducible exact A_eq2 (by assumption) (by assumption) (by assumption) (by assumption) (by assumption) (by assumption) (by assumption) (by assumption) (by assumption) (by kwd_rel)
  | with_reducible exact A_eq3 (by assumption) (by assumption) (by assumption) (by assumption) (by assumption) (by assumption) (by assumption) (by assumption) (by assumption) (by kwd_rel)
  | with_reducible exact A_eq4 (by assumption) (by assumption) (by assumption) (by assumption) (by assumption) (by assumption) (by assumption) (by assumption) (by assumption) (by kwd_rel)
  | with_reducible exact A_eq5 (by assumption) (by assumption) (by assumption) (by assumption) (by assumption) (by assumption) (by assumption) (by assumption) (by assumption) (by kwd_rel))

abbrev tupO (q1 q2 q3 q4 : Int) (t1 t2 t3 t4 : Tok) (c : Nat) : Obj := { cls := .type "tuple", data := .seq #[.int q1 t1, .int q2 t2, .int q3 t3, .int q4 t4] c }

set_option maxHeartbeats 20000000 in
theorem add_tt (w : World) (s₀ : Shared) (mg mb : PySem.Str → Option Value) (ssg sm se sb tsg tm te tb prec u ts : Int) (wy : Way) (a1 a2 : Addr) (u1 u2 u3 u4 v1 v2 v3 v4 t3 t4 t5 : Tok) (c1 c2 : Nat) (vs : List Value) (hbd : AddBinds w vs a1 a2 prec t3 wy t4 u t5)
    (hss : ssg = 0 ∨ ssg = 1) (hts : ts = 0 ∨ ts = 1) (hx : Builtin.bitXor tsg u = ts) (hsm : 0 < sm) (hsm' : sm < 2 ^ 64) (htm : 0 < tm) (htm' : tm < 2 ^ 64) (hsb : sb = Builtin.Int.intBits sm) (htb : tb = Builtin.Int.intBits tm)
    (hse : -5000 ≤ se) (hse' : se ≤ 5000) (hte : -5000 ≤ te) (hte' : te ≤ 5000) (hp0 : 0 ≤ prec) (hp1 : prec ≤ 5000) :
    Tell w s₀ mg mb 68 4 vs (fun news => (a1, tupO ssg sm se sb u1 u2 u3 u4 c1) ∈ news ∧ (a2, tupO tsg tm te tb v1 v2 v3 v4 c2) ∈ news) (RetT (addS ssg sm se ts tm te prec wy)) := by
  unfold Tell RetT tupO
  intro dp un gd cn cs a ccd cl outer A₀ base h₀ L m news s Q E B F X N T hk hled hd hu hret
  obtain ⟨hl1, hl2⟩ := hled
  w_on
  refine wpAny_call ?_
  have hsmb : (sm != 0) = true := by simp; omega
  have htmb : (tm != 0) = true := by simp; omega
  cases hpb : (prec != 0)
  · have hpz : prec = 0 := by simpa using hpb
    k_dflt kwd_less
    tb_start
    all_goals (apply retT_eq (Q := Q) (s := s) hret; (case F => k_asm); (case N => k_asm); (case hT => assumption))
    all_goals kwd_inv
  · have hpn : prec ≠ 0 := by simpa using hpb
    k_dflt kwd_less
    tb_start
    all_goals (apply retT_eq (Q := Q) (s := s) hret; (case F => k_asm); (case N => k_asm); (case hT => assumption))
    all_goals kwd_inv
end Mine
namespace Mine
local macro_rules | `(tactic| tb_start) => `(tactic| repeat' (first | (k_unfold; (try dsimp only)) | (k_end; wrow_close) | (walk1; try dsimp only) | (dsimp only; walk1) | (leave1; walk_say "STEP leave1"; try dsimp only) | fail "no step"))
local macro_rules | `(tactic| kwd_less) => `(tactic| (refine' code_def ?k1 ?k2 ?k3 ?k4 ?k5 ?kA ?kF ?kK ?k6 ?k7 ?k8 ?k9 ?kB ?_ ?c2 ?c3 ?c4 ?c5; (case kA => exact rfl); (case kF => exact rfl); (case kK => assumption); (case k1 => k_asm); (case k2 => k_asm); (case k3 => k_asm); (case k4 => k_asm); (case k5 => k_asm); (case k6 => k_is); (case k7 => k_is); (case k8 => ktr_room); (case k9 => exact addBinds_use (by assumption) (by k_in) (by k_is)); (case c5 => decide); (case kB => exact locs rfl); (case c2 => exact rfl); (case c3 => exact rfl); (case c4 => exact rfl); k_whole; intro g' L' h' FG' F' N' B' X' T'; (try dsimp only); (try k_lift B'); (try k_fold)))
local macro_rules | `(tactic| tb_rel) => `(tactic| first | exact k_gt (by assumption) (by assumption) (by assumption) (by assumption) | exact k_lt_ (by assumption) (by assumption) (by assumption) (by assumption) | exact k_prec (by assumption) (by assumption))
local macro_rules | `(tactic| walk_at "call ref") => `(tactic| (k_here; (with_reducible show wpAny _ _ (call (Value.ref 44) [_, _, _, _, _, _]) _ _ _); k_dflt (refine' useT (normalize_c _ _ _ _ _ _ _ _ _ _ _ _ _ _ _ _ ?n1 ?n2 ?n3 ?n4 ?n5 ?n6) ?k1 ?k2 ?k3 ?k4 ?k5 ?kK ?kl ?kd ?ku ?_; (case k1 => k_asm); (case k2 => k_asm); (case k3 => k_asm); (case k4 => k_asm); (case k5 => k_asm); (case kK => first | exact rfl | assumption); (case kl => trivial); (case kd => ktr_room); (case ku => ktr_units); (case n1 => first | with_reducible assumption | exact .inl rfl | exact .inr rfl); (case n2 => with_reducible first | assumption | exact nn_add (by assumption) (by assumption) | exact nn_add0 (by assumption) (by assumption) | exact nn_neg (by assumption) | exact nn_r (by assumption) (by assumption)); (case n3 => with_reducible first | assumption | exact .inr (one_le (by assumption) (by assumption)) | exact bits_or _); (case n4 => with_reducible first | assumption | exact Int.natCast_nonneg _); (case n5 => first | with_reducible assumption | exact rfl); (case n6 => with_reducible first | assumption | exact b_1 (by assumption) (by assumption) (by assumption) (by assumption) (by tb_rel) | exact b_2 (by assumption) (by assumption) (by assumption) (by assumption) (by tb_rel) | exact b_3 (by assumption) (by assumption) (by assumption) (by assumption) (by tb_rel) | exact b_4 (by assumption) (by assumption) (by assumption) (by assumption) (by tb_rel) | exact b_5 (by assumption) (by assumption) (by assumption) (by assumption) (by tb_rel) | exact b_6 (by assumption) (by assumption) (by assumption) (by assumption) | exact b_7 (by assumption) (by assumption) (by assumption) (by assumption) | exact b_8 (by assumption) (by assumption) (by assumption) (by assumption) | exact b_r (by assumption) (by assumption) (by assumption) (by tb_rel));intro v9 tl9 h9 tk9 F9 N9 hT9; (try dsimp only); (try k_fold))))
local macro_rules | `(tactic| ktr_unf) => `(tactic| (refine' code_def ?k1 ?k2 ?k3 ?k4 ?k5 ?kA ?kF ?kK ?k6 ?k7 ?k8 ?k9 ?kB ?_ ?c2 ?c3 ?c4 ?c5; (case kA => exact rfl); (case kF => exact rfl); (case kK => first | exact rfl | assumption); (case k1 => k_asm); (case k2 => k_asm); (case k3 => k_asm); (case k4 => k_asm); (case k5 => k_asm); (case k6 => k_is); (case k7 => k_is); (case k8 => ktr_room); (case k9 => first | exact BindsTo.of_eq rfl | exact binds_K (by k_in) rfl (by k_is) rfl rfl rfl); (case c5 => decide); (case kB => exact locs rfl); (case c2 => exact rfl); (case c3 => exact rfl); (case c4 => exact rfl); k_whole; intro g' L' h' FG' F' N' B' X' T'; (try dsimp only); (try k_lift B'); (try k_fold)))
local macro_rules | `(tactic| walk_at "call ref") => `(tactic| (k_here; (with_reducible show wpAny _ _ (call (Value.ref 60) [_]) _ _ _); (refine wpAny_call ?_); k_dflt ktr_unf))
local macro_rules | `(tactic| walk_at "ite") => `(tactic| (k_here; first | (k_closed; k_dflt (first | refine ite_pos (by decide) ?_ | refine ite_neg (by decide) ?_)) | (refine ite_pos (by with_reducible assumption) ?_; walk_say "PRUNED") | (refine ite_neg (by with_reducible assumption) ?_; walk_say "PRUNED") | (refine ite_isFalse (by with_reducible assumption) ?_; walk_say "PRUNED") | with_reducible refine ite_tt ?_ | with_reducible refine ite_ff ?_ | (with_reducible refine split_ine ?_ ?_ <;> intro _) | (with_reducible refine split_ieq ?_ ?_ <;> intro _) | with_reducible refine split_not ?_))
local macro_rules | `(tactic| walk_at "inplaceOp BitXor int int") => `(tactic| (k_here; with_reducible refine xor_line (by assumption) ?_))
local macro_rules | `(tactic| kwd_rel) => `(tactic| first | with_reducible exact precA (by assumption) | with_reducible exact precB (by assumption))

theorem drop1 {h₀ h : Heap} {L : Addr} {tl news : List (Addr × Obj)} {x : Addr × Obj} (N : News h₀ L h (tl ++ x :: news)) : News h₀ L h (tl ++ news) := fun p hp => N p (by
  rcases List.mem_append.mp hp with h | h
  · exact List.mem_append_left _ h
  · exact List.mem_append_right _ (List.mem_cons_of_mem _ h))
theorem b_64 {x : Int} (h : 0 < x) (h' : x < 2 ^ 64) : (Builtin.Int.intBits x : Int) ≤ 100000 := by
  refine b_of (m := 64) ?_ (by decide)
  have : ((2 : Int) ^ 64) = ((2 ^ 64 : Nat) : Int) := by norm_cast
  omega
set_option maxHeartbeats 20000000 in
theorem add_zt (w : World) (s₀ : Shared) (mg mb : PySem.Str → Option Value) (tsg tm te tb prec u ts : Int) (wy : Way) (a2 : Addr) (v1 v2 v3 v4 t3 t4 t5 : Tok) (c2 : Nat) (vs : List Value) (hbd : AddBinds w vs 22 a2 prec t3 wy t4 u t5)
    (hts : ts = 0 ∨ ts = 1) (hx : Builtin.bitXor tsg u = ts) (htm : 0 < tm) (htm' : tm < 2 ^ 64) (htb : tb = Builtin.Int.intBits tm) (hp0 : 0 ≤ prec) (hp1 : prec ≤ 5000) :
    Tell w s₀ mg mb 68 4 vs (fun news => (a2, tupO tsg tm te tb v1 v2 v3 v4 c2) ∈ news) (RetT (addX (sv ts tm) te prec wy)) := by
  unfold Tell RetT tupO
  intro dp un gd cn cs a ccd cl outer A₀ base h₀ L m news s Q E B F X N T hk hled hd hu hret
  w_on
  refine wpAny_call ?_
  have htmb : (tm != 0) = true := by simp; omega
  have htm0 : tm ≠ 0 := by omega
  have htm1 : 0 ≤ tm := by omega
  have htb0 : 0 ≤ tb := by rw [htb]; exact Int.natCast_nonneg _
  have htb1 : tm = 0 ∨ 1 ≤ tb := by rw [htb]; exact bits_or tm
  have htb2 : tb ≤ 100000 := by rw [htb]; exact b_64 htm htm'
  cases hpb : (prec != 0)
  · have hpz : prec = 0 := by simpa using hpb
    k_dflt kwd_less
    tb_start
    all_goals (apply retT_eq (Q := Q) (s := s) hret; (case F => k_asm); (case N => first | k_asm | exact drop1 (by k_asm)); (case hT => assumption); (case e => exact close htm1 hts hp0 rfl (.inr ⟨htb, hpz⟩)))
  · have hpn : prec ≠ 0 := by simpa using hpb
    k_dflt kwd_less
    tb_start
    all_goals (apply retT_eq (Q := Q) (s := s) hret; (case F => k_asm); (case N => first | k_asm | exact drop1 (by k_asm)); (case hT => assumption); (case e => exact close htm1 hts hp0 rfl (.inl ⟨rfl, hpn⟩)))

set_option maxHeartbeats 20000000 in
theorem add_tz (w : World) (s₀ : Shared) (mg mb : PySem.Str → Option Value) (ssg sm se sb prec u ts : Int) (wy : Way) (a1 : Addr) (u1 u2 u3 u4 t3 t4 t5 : Tok) (c1 : Nat) (vs : List Value) (hbd : AddBinds w vs a1 22 prec t3 wy t4 u t5)
    (hss : ssg = 0 ∨ ssg = 1) (hx : Builtin.bitXor 0 u = ts) (hsm : 0 < sm) (hsm' : sm < 2 ^ 64) (hsb : sb = Builtin.Int.intBits sm) (hp0 : 0 ≤ prec) (hp1 : prec ≤ 5000) :
    Tell w s₀ mg mb 68 4 vs (fun news => (a1, tupO ssg sm se sb u1 u2 u3 u4 c1) ∈ news) (RetT (addX (sv ssg sm) se prec wy)) := by
  unfold Tell RetT tupO
  intro dp un gd cn cs a ccd cl outer A₀ base h₀ L m news s Q E B F X N T hk hled hd hu hret
  w_on
  refine wpAny_call ?_
  have htmb : (sm != 0) = true := by simp; omega
  have htm0 : sm ≠ 0 := by omega
  have htm1 : 0 ≤ sm := by omega
  have htb0 : 0 ≤ sb := by rw [hsb]; exact Int.natCast_nonneg _
  have htb1 : sm = 0 ∨ 1 ≤ sb := by rw [hsb]; exact bits_or sm
  have htb2 : sb ≤ 100000 := by rw [hsb]; exact b_64 hsm hsm'
  cases hpb : (prec != 0)
  · have hpz : prec = 0 := by simpa using hpb
    k_dflt kwd_less
    tb_start
    all_goals (apply retT_eq (Q := Q) (s := s) hret; (case F => k_asm); (case N => first | k_asm | exact drop1 (by k_asm)); (case hT => assumption); (case e => exact close htm1 hss hp0 rfl (.inr ⟨hsb, hpz⟩)))
  · have hpn : prec ≠ 0 := by simpa using hpb
    k_dflt kwd_less
    tb_start
    all_goals (apply retT_eq (Q := Q) (s := s) hret; (case F => k_asm); (case N => first | k_asm | exact drop1 (by k_asm)); (case hT => assumption); (case e => exact close htm1 hss hp0 rfl (.inl ⟨rfl, hpn⟩)))

set_option maxHeartbeats 20000000 in
theorem add_zz (w : World) (s₀ : Shared) (mg mb : PySem.Str → Option Value) (prec u ts : Int) (wy : Way) (t3 t4 t5 : Tok) (vs : List Value) (hbd : AddBinds w vs 22 22 prec t3 wy t4 u t5)
    (hx : Builtin.bitXor 0 u = ts) :
    Tell w s₀ mg mb 68 4 vs (fun _ => True) (RetT (0, 0, 0, 0)) := by
  unfold Tell RetT
  intro dp un gd cn cs a ccd cl outer A₀ base h₀ L m news s Q E B F X N T hk hled hd hu hret
  w_on
  refine wpAny_call ?_
  k_dflt kwd_less
  tb_start
  all_goals (apply retT_zero (Q := Q) (s := s) hret; (case F => k_asm); (case N => k_asm); (case e => rfl))
end Mine
namespace Mine

theorem sv_u {u sg m w : Int} {k : Nat} (hsg : sg = 0 ∨ sg = 1) (hw : w = sv sg m * 2 ^ k) : (if u = 1 then -w else w) = sv (if u = 1 then 1 - sg else sg) m * 2 ^ k := by
  split
  · rw [sv_neg hsg, hw, Int.neg_mul]
  · exact hw
theorem ts_01 {u sg : Int} (hsg : sg = 0 ∨ sg = 1) : (if u = 1 then 1 - sg else sg) = 0 ∨ (if u = 1 then 1 - sg else sg) = 1 := by
  split <;> omega

theorem add_c (w : World) (s₀ : Shared) (mg mb : PySem.Str → Option Value) (w1 p1 w2 p2 prec u : Int) (wy : Way) (a1 a2 : Addr) (t3 t4 t5 : Tok) (vs : List Value) (hbd : AddBinds w vs a1 a2 prec t3 wy t4 u t5) (hu01 : u = 0 ∨ u = 1)
    (hw1 : w1.natAbs < 2 ^ 64) (hw2 : w2.natAbs < 2 ^ 64) (hp1 : -4000 ≤ p1) (hp1' : p1 ≤ 4000) (hp2 : -4000 ≤ p2) (hp2' : p2 ≤ 4000) (hq0 : 0 ≤ prec) (hq1 : prec ≤ 5000) :
    Tell w s₀ mg mb 68 4 vs (fun news => TupU news (.ref a1) (told w1 p1) ∧ TupU news (.ref a2) (told w2 p2)) (RetT (sumS w1 p1 (if u = 1 then -w2 else w2) p2 prec wy)) := by
  intro dp un gd cn cs a ccd cl outer A₀ base h₀ L m news s Q E B F X N T hk hled hd hu hret
  obtain ⟨⟨T1, U1⟩, ⟨T2, U2⟩⟩ := hled
  by_cases z1 : w1 = 0
  · have e1 := U1 (told_nought z1)
    cases e1
    by_cases z2 : w2 = 0
    · have e2 := U2 (told_nought z2)
      cases e2
      refine add_zz w s₀ mg mb prec u _ wy t3 t4 t5 vs hbd rfl dp un gd cn cs a ccd cl outer A₀ base h₀ L m news s Q E B F X N T hk trivial hd hu ?_
      have e : sumS w1 p1 (if u = 1 then -w2 else w2) p2 prec wy = (0, 0, 0, 0) := by
        rw [z1, z2, sumS_zl, show (if u = 1 then -(0 : Int) else 0) = 0 by split <;> rfl, addX_zero hq0]
      rw [e] at hret
      exact hret
    · obtain ⟨sg, m', e, b, k, ht, hsg, hm, hm', hb, he, hk', hw⟩ := told_parts (p := p2) z2 hw2
      rw [ht] at T2
      obtain ⟨a', ea, T2⟩ := T2
      cases ea
      rcases T2 with ⟨x1, x2, x3, x4, c, hmem⟩ | ⟨_, hz⟩
      · refine add_zt w s₀ mg mb sg m' e b prec u _ wy a2 x1 x2 x3 x4 t3 t4 t5 c vs hbd (ts_01 (u := u) hsg) (xor_01 hsg hu01) hm hm' hb hq0 hq1 dp un gd cn cs a ccd cl outer A₀ base h₀ L m news s Q E B F X N T hk hmem hd hu ?_
        rw [z1, sumS_zl, sv_u (u := u) hsg hw, addX_k he] at hret
        exact hret
      · simp only [Prod.mk.injEq] at hz
        omega
  · obtain ⟨sg, m', e, b, k, ht, hsg, hm, hm', hb, he, hk', hw⟩ := told_parts (p := p1) z1 hw1
    rw [ht] at T1
    obtain ⟨a', ea, T1⟩ := T1
    cases ea
    rcases T1 with ⟨x1, x2, x3, x4, c, hmem⟩ | ⟨_, hz⟩
    · by_cases z2 : w2 = 0
      · have e2 := U2 (told_nought z2)
        cases e2
        refine add_tz w s₀ mg mb sg m' e b prec u _ wy a1 x1 x2 x3 x4 t3 t4 t5 c vs hbd hsg rfl hm hm' hb hq0 hq1 dp un gd cn cs a ccd cl outer A₀ base h₀ L m news s Q E B F X N T hk hmem hd hu ?_
        rw [z2, show (if u = 1 then -(0 : Int) else 0) = 0 by split <;> rfl, sumS_zr, hw, addX_k he] at hret
        exact hret
      · obtain ⟨sg2, m2, e2, b2, k2, ht2, hsg2, hm2, hm2', hb2, he2, hk2', hw2'⟩ := told_parts (p := p2) z2 hw2
        rw [ht2] at T2
        obtain ⟨a'', ea2, T2⟩ := T2
        cases ea2
        rcases T2 with ⟨y1, y2, y3, y4, c2, hmem2⟩ | ⟨_, hz⟩
        · refine add_tt w s₀ mg mb sg m' e b sg2 m2 e2 b2 prec u _ wy a1 a2 x1 x2 x3 x4 y1 y2 y3 y4 t3 t4 t5 c c2 vs hbd hsg (ts_01 (u := u) hsg2) (xor_01 hsg2 hu01) hm hm' hm2 hm2' hb hb2 (by omega) (by omega) (by omega) (by omega) hq0 hq1
            dp un gd cn cs a ccd cl outer A₀ base h₀ L m news s Q E B F X N T hk ⟨hmem, hmem2⟩ hd hu ?_
          rw [sumS_tt hw (sv_u (u := u) hsg2 hw2') he he2] at hret
          exact hret
        · simp only [Prod.mk.injEq] at hz
          omega
    · simp only [Prod.mk.injEq] at hz
      omega

local macro_rules | `(tactic| tb_start) => `(tactic| repeat' (first | (k_unfold; (try dsimp only)) | (k_end; wrow_close) | (walk1; try dsimp only) | (dsimp only; walk1) | (leave1; walk_say "STEP leave1"; try dsimp only) | fail "no step"))
local macro_rules | `(tactic| kwd_less) => `(tactic| (refine' code_def ?k1 ?k2 ?k3 ?k4 ?k5 ?kA ?kF ?kK ?k6 ?k7 ?k8 ?k9 ?kB ?_ ?c2 ?c3 ?c4 ?c5; (case kA => exact rfl); (case kF => exact rfl); (case kK => first | exact rfl | assumption); (case k1 => k_asm); (case k2 => k_asm); (case k3 => k_asm); (case k4 => k_asm); (case k5 => k_asm); (case k6 => k_is); (case k7 => k_is); (case k8 => ktr_room); (case k9 => first | exact BindsTo.of_eq rfl | exact binds_K (by k_in) rfl (by k_is) rfl rfl rfl); (case c5 => decide); (case kB => exact locs rfl); (case c2 => exact rfl); (case c3 => exact rfl); (case c4 => exact rfl); k_whole; intro g' L' h' FG' F' N' B' X' T'; (try dsimp only); (try k_lift B'); (try k_fold)))
local macro_rules | `(tactic| walk_at "call ref") => `(tactic| (k_here; (with_reducible show wpAny _ _ (call (Value.ref 68) [_, _, _, _, _]) _ _ _); k_dflt (refine' useT (add_c _ _ _ _ _ _ _ _ _ _ _ _ _ _ _ _ _ add5 ?n0 ?n1 ?n2 ?n3 ?n4 ?n5 ?n6 ?n7 ?n8) ?k1 ?k2 ?k3 ?k4 ?k5 ?kK ?kl ?kd ?ku ?_; (case k1 => k_asm); (case k2 => k_asm); (case k3 => k_asm); (case k4 => k_asm); (case k5 => k_asm); (case kK => first | exact rfl | assumption); (case kl => assumption); (case kd => ktr_room); (case ku => ktr_units); (case n0 => exact .inr rfl); (case n1 => assumption); (case n2 => assumption); (case n3 => assumption); (case n4 => assumption); (case n5 => assumption); (case n6 => assumption); (case n7 => assumption); (case n8 => assumption); intro v9 tl9 h9 tk9 F9 N9 hT9; (try dsimp only); (try k_fold))))

set_option maxHeartbeats 8000000 in
theorem sub_c (w : World) (s₀ : Shared) (mg mb : PySem.Str → Option Value) (w1 p1 w2 p2 prec : Int) (wy : Way) (a1 a2 : Addr) (t3 t4 : Tok)
    (hw1 : w1.natAbs < 2 ^ 64) (hw2 : w2.natAbs < 2 ^ 64) (hp1 : -4000 ≤ p1) (hp1' : p1 ≤ 4000) (hp2 : -4000 ≤ p2) (hp2' : p2 ≤ 4000) (hq0 : 0 ≤ prec) (hq1 : prec ≤ 5000) :
    Tell w s₀ mg mb 76 5 [.ref a1, .ref a2, .int prec t3, .str wy.str t4] (fun news => TupU news (.ref a1) (told w1 p1) ∧ TupU news (.ref a2) (told w2 p2)) (RetT (sumS w1 p1 (-w2) p2 prec wy)) := by
  unfold Tell RetT
  intro dp un gd cn cs a ccd cl outer A₀ base h₀ L m news s Q E B F X N T hk hled hd hu hret
  w_on
  refine wpAny_call ?_
  k_dflt kwd_less
  tb_start
  all_goals (apply retT_eq (Q := Q) (s := s) hret; (case F => k_asm); (case N => k_asm); (case hT => assumption); (case e => rfl))
end Mine
namespace Mine
local macro_rules | `(tactic| tb_start) => `(tactic| repeat' (first | (k_unfold; (try dsimp only)) | (k_end; wrow_close) | (walk1; try dsimp only) | (dsimp only; walk1) | (leave1; walk_say "STEP leave1"; try dsimp only) | fail "no step"))
abbrev RetA : RetP := fun h₀ L m news s Q => ∀ (x : Int) (t : Tok) (h' : Heap) (tk' : Nat), Fr h₀ L h' m → News h₀ L h' news → Q (.int x t) { s with heap := h', toks := tk' }
def ListIn (news : List (Addr × Obj)) (l : Addr) : Prop := ∃ (ws : List Value) (ns : List Int), (l, W.listOf ws.toArray 0) ∈ news ∧ IntsAre ws ns ∧ ns.length ≤ 24

theorem news_dup {h₀ h : Heap} {L : Addr} {news : List (Addr × Obj)} {x : Addr × Obj} (hm : x ∈ news) (N : News h₀ L h news) : News h₀ L h (x :: news) := fun p hp => N p (by
  rcases List.mem_cons.mp hp with rfl | h
  · exact hm
  · exact h)
theorem news_tail {h₀ h : Heap} {L : Addr} {news : List (Addr × Obj)} {x : Addr × Obj} (N : News h₀ L h (x :: news)) : News h₀ L h news := fun p hp => N p (List.mem_cons_of_mem _ hp)
theorem retA_end {h₀ h' : Heap} {L : Addr} {m : PySem.Str → Option Value} {news : List (Addr × Obj)} {s : Shared} {Q : Value → Shared → Prop} {y : Int} {t : Tok} {tk' : Nat}
    (hret : ∀ (x : Int) (t : Tok) (h' : Heap) (tk' : Nat), Fr h₀ L h' m → News h₀ L h' news → Q (.int x t) { s with heap := h', toks := tk' }) (F : Fr h₀ L h' m) (N : News h₀ L h' news) : Q (.int y t) { s with heap := h', toks := tk' } := hret y t h' tk' F N

set_option maxHeartbeats 8000000 in
theorem number_c (w : World) (s₀ : Shared) (mg mb : PySem.Str → Option Value) (l : Addr) (i : Int) (ti : Tok) (hi : 0 ≤ i) (hi' : i ≤ 1000) :
    Tell w s₀ mg mb 83 1 [.ref l, .int i ti] (fun news => ListIn news l) RetA := by
  unfold Tell RetA
  intro dp un gd cn cs a ccd cl outer A₀ base h₀ L m news s Q E B F X N T hk hled hd hu hret
  obtain ⟨ws, ns, hmem, hI, hlen⟩ := hled
  replace N := news_dup hmem N
  w_on
  refine wpAny_call ?_
  k_dflt cell_enter
  tb_start
  all_goals exact retA_end (Q := Q) (s := s) hret (by k_asm) (news_tail (by k_asm))

abbrev RetD : RetP := fun h₀ L m news s Q => ∀ (W P : Int) (D : Addr) (t1 t2 : Tok) (c : Nat) (h' : Heap) (tk' : Nat), -500000 ≤ W → W ≤ 500002 → -350 ≤ P → P ≤ 350 → Fr h₀ L h' m → News h₀ L h' ((D, ({ cls := .type "tuple", data := .seq #[.int W t1, .int P t2] c } : Obj)) :: news) → Q (.ref D) { s with heap := h', toks := tk' }
theorem retD_end {h₀ h' : Heap} {L D : Addr} {m : PySem.Str → Option Value} {news : List (Addr × Obj)} {s : Shared} {Q : Value → Shared → Prop} {W P : Int} {t1 t2 : Tok} {c : Nat} {tk' : Nat}
    (hret : ∀ (W P : Int) (D : Addr) (t1 t2 : Tok) (c : Nat) (h' : Heap) (tk' : Nat), -500000 ≤ W → W ≤ 500002 → -350 ≤ P → P ≤ 350 → Fr h₀ L h' m → News h₀ L h' ((D, ({ cls := .type "tuple", data := .seq #[.int W t1, .int P t2] c } : Obj)) :: news) → Q (.ref D) { s with heap := h', toks := tk' })
    (F : Fr h₀ L h' m) (N : News h₀ L h' ((D, ({ cls := .type "tuple", data := .seq #[.int W t1, .int P t2] c } : Obj)) :: news)) (h1 : -500000 ≤ W) (h2 : W ≤ 500002) (h3 : -350 ≤ P) (h4 : P ≤ 350) : Q (.ref D) { s with heap := h', toks := tk' } := hret W P D t1 t2 c h' tk' h1 h2 h3 h4 F N

theorem useA {w : World} {s₀ : Shared} {mg mb : PySem.Str → Option Value} {f : Addr} {sz : Nat} {vs : List Value} {led : List (Addr × Obj) → Prop}
    (C : Tell w s₀ mg mb f sz vs led RetA) {dp un : Nat} {gd : Option (List Code)} {cn : PySem.Str} {cs : Scope} {a : Addr} {ccd : Value} {cl : List (PySem.Str × Addr)} {outer : List Env} {A₀ : Around} {base h₀ : Heap} {L : Addr} {m : PySem.Str → Option Value} {news : List (Addr × Obj)} {s : Shared} {Q E : Value → Shared → Prop}
    (B : Below A₀ base outer h₀) (F : Fr h₀ L s.heap m) (X : (Mine.hd.heap_39 w.params).In h₀) (N : News h₀ L s.heap news) (T : Top hd.view_39 (looseW hd.view_39 LN) (ExcName.means s₀.heap) mg mb h₀) (hk : cs.kind = .function) (hl : led news) (hd : dp + sz < recursionLimit) (hu : un + 8 * sz < cLine)
    (hret : ∀ (x : Int) (t : Tok) (h' : Heap) (tk' : Nat), Fr h₀ L h' m → News h₀ L h' news → Q (.int x t) { s with heap := h', toks := tk' }) :
    wpAny (model PySem.Challenge.rw_bw0024_01.row.prog w) (ktrTop dp un gd cn cs L a ccd cl outer) (call (.ref f) vs) Q E s :=
  C dp un gd cn cs a ccd cl outer A₀ base h₀ L m news s Q E B F X N T hk hl hd hu hret
theorem useD {w : World} {s₀ : Shared} {mg mb : PySem.Str → Option Value} {f : Addr} {sz : Nat} {vs : List Value} {led : List (Addr × Obj) → Prop}
    (C : Tell w s₀ mg mb f sz vs led RetD) {dp un : Nat} {gd : Option (List Code)} {cn : PySem.Str} {cs : Scope} {a : Addr} {ccd : Value} {cl : List (PySem.Str × Addr)} {outer : List Env} {A₀ : Around} {base h₀ : Heap} {L : Addr} {m : PySem.Str → Option Value} {news : List (Addr × Obj)} {s : Shared} {Q E : Value → Shared → Prop}
    (B : Below A₀ base outer h₀) (F : Fr h₀ L s.heap m) (X : (Mine.hd.heap_39 w.params).In h₀) (N : News h₀ L s.heap news) (T : Top hd.view_39 (looseW hd.view_39 LN) (ExcName.means s₀.heap) mg mb h₀) (hk : cs.kind = .function) (hl : led news) (hd : dp + sz < recursionLimit) (hu : un + 8 * sz < cLine)
    (hret : ∀ (W P : Int) (D : Addr) (t1 t2 : Tok) (c : Nat) (h' : Heap) (tk' : Nat), -500000 ≤ W → W ≤ 500002 → -350 ≤ P → P ≤ 350 → Fr h₀ L h' m → News h₀ L h' ((D, ({ cls := .type "tuple", data := .seq #[.int W t1, .int P t2] c } : Obj)) :: news) → Q (.ref D) { s with heap := h', toks := tk' }) :
    wpAny (model PySem.Challenge.rw_bw0024_01.row.prog w) (ktrTop dp un gd cn cs L a ccd cl outer) (call (.ref f) vs) Q E s :=
  C dp un gd cn cs a ccd cl outer A₀ base h₀ L m news s Q E B F X N T hk hl hd hu hret

theorem fm1 (x : Int) : x.fmod 1000003 = x % 1000003 := Int.fmod_eq_emod_of_nonneg _ (by decide)
theorem fm2 (x : Int) : x.fmod 3 = x % 3 := Int.fmod_eq_emod_of_nonneg _ (by decide)
theorem fm3 (x : Int) : x.fmod 61 = x % 61 := Int.fmod_eq_emod_of_nonneg _ (by decide)
theorem fm4 (x : Int) : x.fmod 701 = x % 701 := Int.fmod_eq_emod_of_nonneg _ (by decide)

local macro_rules | `(tactic| walk_at "call ref") => `(tactic| (k_here; (with_reducible show wpAny _ _ (call (Value.ref 83) [Value.ref _, Value.int _ _]) _ _ _); k_dflt (refine' useA (number_c _ _ _ _ _ _ _ ?n1 ?n2) ?k1 ?k2 ?k3 ?k4 ?k5 ?kK ?kl ?kd ?ku ?_; (case k1 => k_asm); (case k2 => k_asm); (case k3 => k_asm); (case k4 => k_asm); (case k5 => k_asm); (case kK => first | exact rfl | assumption); (case kl => assumption); (case kd => ktr_room); (case ku => ktr_units); (case n1 => omega); (case n2 => omega); intro x9 t9 h9 tk9 F9 N9; (try dsimp only); (try k_fold))))
set_option maxHeartbeats 8000000 in
theorem drawn_c (w : World) (s₀ : Shared) (mg mb : PySem.Str → Option Value) (l : Addr) (i : Int) (ti : Tok) (hi : 0 ≤ i) (hi' : i ≤ 900) :
    Tell w s₀ mg mb 90 2 [.ref l, .int i ti] (fun news => ListIn news l) RetD := by
  unfold Tell RetD
  intro dp un gd cn cs a ccd cl outer A₀ base h₀ L m news s Q E B F X N T hk hled hd hu hret
  w_on
  refine wpAny_call ?_
  k_dflt cell_enter
  tb_start
  all_goals (apply retD_end (Q := Q) (s := s) hret; (case F => k_asm); (case N => k_asm); (all_goals (clear hret; simp only [fm1, fm2, fm3, fm4]; omega)))
end Mine
namespace Mine
local macro_rules | `(tactic| tb_start) => `(tactic| repeat' (first | (k_unfold; (try dsimp only)) | (k_end; wrow_close) | (walk1; try dsimp only) | (dsimp only; walk1) | (leave1; walk_say "STEP leave1"; try dsimp only) | fail "no step"))
local macro_rules | `(tactic| kwd_rel) => `(tactic| with_reducible first | exact up_n1 (by assumption) | exact up_n2 (by assumption) (by assumption) | exact up_f (by assumption) | exact up_c (by assumption) | exact up_u)
local macro_rules | `(tactic| kwd_less) => `(tactic| with_reducible first | exact dn_0 (by assumption) | exact dn_n1 (by assumption) (by assumption) | exact dn_n2 (by assumption) (by assumption) | exact dn_f (by assumption) | exact dn_c (by assumption) | exact dn_d)
local macro_rules | `(tactic| kwd_inv) => `(tactic| with_reducible first
  | exact R_small (by assumption) (by assumption)
  | exact U_neg (by assumption) (by assumption) (by assumption) (by assumption) (by assumption) (by kwd_rel)
  | exact U_pos (by assumption) (by assumption) (by assumption) (by assumption) (by first | assumption | exact not_neg (by assumption)) (by kwd_rel)
  | exact D_neg (by assumption) (by assumption) (by assumption) (by assumption) (by kwd_less)
  | exact D_pos (by assumption) (by assumption) (by assumption) (by first | assumption | exact not_neg (by assumption)) (by kwd_less))
local macro_rules | `(tactic| walk_at "ite") => `(tactic| (k_here; first | (k_closed; k_dflt (first | refine ite_pos (by decide) ?_ | refine ite_neg (by decide) ?_)) | (refine ite_pos (by with_reducible assumption) ?_; walk_say "PRUNED") | (refine ite_neg (by with_reducible assumption) ?_; walk_say "PRUNED") | with_reducible refine ite_tt ?_ | with_reducible refine ite_ff ?_ | (with_reducible refine split_ine ?_ ?_ <;> intro _) | (with_reducible refine split_ieq ?_ ?_ <;> intro _) | with_reducible refine split_not ?_))
local macro_rules | `(tactic| walk_at "call ref") => `(tactic| (k_here; (with_reducible show wpAny _ _ (call (Value.ref 97) [Value.int _ _, Value.int _ _]) _ _ _); k_dflt (refine' useT (told_c _ _ _ _ _ _ _ _) ?k1 ?k2 ?k3 ?k4 ?k5 ?kK ?kl ?kd ?ku ?_; (case k1 => k_asm); (case k2 => k_asm); (case k3 => k_asm); (case k4 => k_asm); (case k5 => k_asm); (case kK => first | exact rfl | assumption); (case kl => trivial); (case kd => ktr_room); (case ku => ktr_units); intro v9 tl9 h9 tk9 F9 N9 hT9; (try dsimp only); (try k_fold))))

theorem drop2 {h₀ h : Heap} {L : Addr} {tl news : List (Addr × Obj)} {x : Addr × Obj} (N : News h₀ L h (tl ++ x :: news)) : News h₀ L h (tl ++ news) := fun p hp => N p (by
  rcases List.mem_append.mp hp with h | h
  · exact List.mem_append_left _ h
  · exact List.mem_append_right _ (List.mem_cons_of_mem _ h))
theorem abs_line {prog : Program} {w : World} {A : Around} {E : Value → Shared → Prop} {s : Shared} {a c : Int} {t : Tok} {Q : Value → Shared → Prop} (e : (if a < 0 then -a else a) = c) (h : ∀ u tk, Q (.int c u) { s with toks := tk }) :
    wpAny (model prog w) A (call (.builtin "abs") [.int a t]) Q E s := by
  subst e
  exact call_abs_int h
local macro_rules | `(tactic| walk_at "call builtin:abs") => `(tactic| (k_here; (with_reducible refine abs_line (by assumption) ?_); intro _ _))
theorem fdiv_line {prog : Program} {w : World} {A : Around} {E : Value → Shared → Prop} {s : Shared} {a : Int} {k : Nat} {t u : Tok} {Q : Value → Shared → Prop} (hk : k < 9000) (h : Q (.int (a.fdiv (2 ^ k)) s.toks) { s with toks := s.toks + 1 }) :
    wpAny (model prog w) A (binaryOp .FloorDiv (.int a t) (.int (2 ^ k) u)) Q E s := by
  refine floordiv_int (Int.ne_of_gt (Int.pow_pos (by decide))) h (.inl (PyProof.noPylong_of_log2 ?_))
  rw [Int.natAbs_pow, show (2 : Int).natAbs = 2 from rfl, Nat.log2_two_pow]
  exact hk
theorem fmod_line {prog : Program} {w : World} {A : Around} {E : Value → Shared → Prop} {s : Shared} {a : Int} {k : Nat} {t u : Tok} {Q : Value → Shared → Prop} (h : Q (.int (a.fmod (2 ^ k)) s.toks) { s with toks := s.toks + 1 }) :
    wpAny (model prog w) A (binaryOp .Mod (.int a t) (.int (2 ^ k) u)) Q E s := mod_int' (Int.ne_of_gt (Int.pow_pos (by decide))) h
theorem mul2_line {prog : Program} {w : World} {A : Around} {E : Value → Shared → Prop} {s : Shared} {b : Int} {t u : Tok} {Q : Value → Shared → Prop} (h : Q (.int (2 * b) s.toks) { s with toks := s.toks + 1 }) :
    wpAny (model prog w) A (binaryOp .Mult (.int 2 t) (.int b u)) Q E s := PyProof.Rows.mul_int h (IntMulOk.of_left (by decide))
local macro_rules | `(tactic| walk_at "binaryOp Pow int int") => `(tactic| (k_here; refine pow_int_small (by omega) (by omega) (by decide) ?_))
local macro_rules | `(tactic| walk_at "binaryOp FloorDiv int int") => `(tactic| (k_here; refine fdiv_line (by omega) ?_))
local macro_rules | `(tactic| walk_at "binaryOp Mod int int") => `(tactic| (k_here; with_reducible refine fmod_line ?_))
local macro_rules | `(tactic| walk_at "binaryOp Mult int int") => `(tactic| (k_here; with_reducible refine mul2_line ?_))

set_option maxHeartbeats 8000000 in
theorem rounded_c (w : World) (s₀ : Shared) (mg mb : PySem.Str → Option Value) (whole power most : Int) (wy : Way) (t1 t2 t3 t4 : Tok) (hw : whole.natAbs < 2 ^ 3000) (hm0 : 0 ≤ most) (hm1 : most ≤ 5000) :
    Tell w s₀ mg mb 104 2 [.int whole t1, .int power t2, .int most t3, .str wy.str t4] (fun _ => True) (RetT (rounded whole power most wy)) := by
  unfold Tell RetT
  intro dp un gd cn cs a ccd cl outer A₀ base h₀ L m news s Q E B F X N T hk hled hd hu hret
  w_on
  obtain ⟨n, hn⟩ : ∃ n : Nat, n = whole.natAbs := ⟨_, rfl⟩
  have habs : (if whole < 0 then -whole else whole) = (n : Int) := by split <;> omega
  have hbn : (Builtin.Int.intBits (n : Int) : Int) ≤ 3000 := by rw [bits_eq, Int.natAbs_natCast, hn]; have := bl_le hw; omega
  cases wy <;> simp only [Way.str] <;> (refine wpAny_call ?_; k_dflt cell_enter; tb_start)
  all_goals first
    | (exfalso; exact absurd (by assumption : 2 * (n : Int).fmod (2 ^ ((Builtin.Int.intBits (n : Int) : Int) - most).toNat) = 2 ^ ((Builtin.Int.intBits (n : Int) : Int) - most).toNat) (by assumption))
    | (apply retT_eq (Q := Q) (s := s) hret; (case F => k_asm); (case N => first | k_asm | exact drop2 (by k_asm)); (case hT => assumption); (case e => kwd_inv))
end Mine
namespace Mine

abbrev tupD (q : Q4) : PyData := .tuple [.int q.1, .int q.2.1, .int q.2.2.1, .int q.2.2.2]
theorem get22 {w : World} {h : Heap} {o : Obj} (X : (Mine.hd.heap_39 w.params).In h) (e : (Mine.hd.heap_39 w.params).lookup 22 = some o) : h.get? 22 = some o := X _ _ e
theorem reads22 {w : World} {h : Heap} (X : (Mine.hd.heap_39 w.params).In h) : ∃ as, Reads h (.ref 22) (tupD (0, 0, 0, 0)) as := by
  have e : (Mine.hd.heap_39 w.params).lookup 22 = some ({ cls := .type "tuple", data := .seq #[.int 0 213, .int 0 187, .int 0 214, .int 0 215] } : Obj) := by k_is
  exact ⟨_, reads_tuple_at (get22 X e) rfl rfl (ReadsAll.cons (Reads.int _ _) (ReadsAll.cons (Reads.int _ _) (ReadsAll.cons (Reads.int _ _) (ReadsAll.cons (Reads.int _ _) ReadsAll.nil))))⟩
theorem TupIn.reads {w : World} {h₀ h : Heap} {L : Addr} {m : PySem.Str → Option Value} {tl news : List (Addr × Obj)} {v : Value} {q : Q4} (T : TupIn tl v q) (X : (Mine.hd.heap_39 w.params).In h₀) (F : Fr h₀ L h m) (N : News h₀ L h news) (hs : ∀ p ∈ tl, p ∈ news) : ∃ as, Reads h v (tupD q) as := by
  obtain ⟨a, rfl, T⟩ := T
  rcases T with ⟨t1, t2, t3, t4, c, hm⟩ | ⟨rfl, rfl⟩
  · exact ⟨_, reads_tuple_at (N.get (hs _ hm)) rfl rfl (ReadsAll.cons (Reads.int _ _) (ReadsAll.cons (Reads.int _ _) (ReadsAll.cons (Reads.int _ _) (ReadsAll.cons (Reads.int _ _) ReadsAll.nil))))⟩
  · exact reads22 (X.keeps F.keep)
theorem TupIn.ref {tl : List (Addr × Obj)} {v : Value} {q : Q4} (T : TupIn tl v q) : ∃ a, v = .ref a := ⟨T.choose, T.choose_spec.1⟩
theorem TupIn.mono {tl news : List (Addr × Obj)} {v : Value} {q : Q4} (T : TupIn tl v q) (hs : ∀ p ∈ tl, p ∈ news) : TupIn news v q := by
  obtain ⟨a, rfl, T⟩ := T
  exact ⟨a, rfl, T.imp (fun ⟨t1, t2, t3, t4, c, hm⟩ => ⟨t1, t2, t3, t4, c, hs _ hm⟩) id⟩
theorem TupU.mono {tl news : List (Addr × Obj)} {v : Value} {q : Q4} (T : TupU tl v q) (hs : ∀ p ∈ tl, p ∈ news) : TupU news v q := ⟨T.1.mono hs, T.2⟩

theorem shaped4 (q : Q4) : SeqAt.shaped (tupD q) = true := by
  simp [SeqAt.shaped, PyData.canLay0, PyData.canLayAll0, PyData.depth, PyData.depthAll]
theorem eqv4 (q : Q4) : PyData.eqv (tupD q) (tupD q) = true := by
  simp [PyData.eqv, PyData.eqvAll]

section
variable {w : World} {A : Around} {E : Value → Shared → Prop} {s : Shared} {h₀ : Heap} {L : Addr} {m : PySem.Str → Option Value} {tl1 tl2 tl3 tl4 news : List (Addr × Obj)} {v1 v2 v3 v4 : Value} {q1 q2 q3 q4 : Q4} {Q : Value → Shared → Prop}

theorem ne_tup (X : (Mine.hd.heap_39 w.params).In h₀) (F : Fr h₀ L s.heap m) (N : News h₀ L s.heap news) (T1 : TupIn tl1 v1 q1) (T2 : TupIn tl2 v2 q2) (h1 : ∀ p ∈ tl1, p ∈ news) (h2 : ∀ p ∈ tl2, p ∈ news) (hu : A.units + 64 < cLine) (e : q1 = q2) (h : Q (.bool false) s) :
    wpAny (model PySem.Challenge.rw_bw0024_01.row.prog w) A (compareOp .NotEq v1 v2) Q E s := by
  subst e
  obtain ⟨a1, r1⟩ := T1.reads X F N h1
  obtain ⟨a2, r2⟩ := T2.reads X F N h2
  exact ne_dataH r1 r2 (shaped4 _) (shaped4 _) hu (by rw [eqv4]; exact h)
theorem ne_any (X : (Mine.hd.heap_39 w.params).In h₀) (F : Fr h₀ L s.heap m) (N : News h₀ L s.heap news) (T1 : TupIn tl1 v1 q1) (T2 : TupIn tl2 v2 q2) (h1 : ∀ p ∈ tl1, p ∈ news) (h2 : ∀ p ∈ tl2, p ∈ news) (hu : A.units + 64 < cLine) (h : ∀ b, Q (.bool b) s) :
    wpAny (model PySem.Challenge.rw_bw0024_01.row.prog w) A (compareOp .NotEq v1 v2) Q E s := by
  obtain ⟨a1, r1⟩ := T1.reads X F N h1
  obtain ⟨a2, r2⟩ := T2.reads X F N h2
  exact ne_dataH r1 r2 (shaped4 _) (shaped4 _) hu (h _)
theorem eq_tup (X : (Mine.hd.heap_39 w.params).In h₀) (F : Fr h₀ L s.heap m) (N : News h₀ L s.heap news) (T1 : TupIn tl1 v1 q1) (T2 : TupIn tl2 v2 q2) (h1 : ∀ p ∈ tl1, p ∈ news) (h2 : ∀ p ∈ tl2, p ∈ news) (hu : A.units + 64 < cLine) (e : q1 = q2) (h : Q (.bool true) s) :
    wpAny (model PySem.Challenge.rw_bw0024_01.row.prog w) A (compareOp .Eq v1 v2) Q E s := by
  subst e
  obtain ⟨a1, r1⟩ := T1.reads X F N h1
  obtain ⟨a2, r2⟩ := T2.reads X F N h2
  exact eq_dataH r1 r2 (shaped4 _) (shaped4 _) hu (by rw [eqv4]; exact h)
theorem ne_pair {a b : Addr} {c1 c2 : Nat} (X : (Mine.hd.heap_39 w.params).In h₀) (F : Fr h₀ L s.heap m) (N : News h₀ L s.heap news) (T1 : TupU tl1 v1 q1) (T2 : TupU tl2 v2 q2) (T3 : TupIn tl3 v3 q1) (T4 : TupIn tl4 v4 q2)
    (ha : (a, ({ cls := .type "tuple", data := .seq #[v1, v2] c1 } : Obj)) ∈ news) (hb : (b, ({ cls := .type "tuple", data := .seq #[v3, v4] c2 } : Obj)) ∈ news)
    (h1 : ∀ p ∈ tl1, p ∈ news) (h2 : ∀ p ∈ tl2, p ∈ news) (h3 : ∀ p ∈ tl3, p ∈ news) (h4 : ∀ p ∈ tl4, p ∈ news) (hu : A.units + 64 < cLine) (h : Q (.bool false) s) :
    wpAny (model PySem.Challenge.rw_bw0024_01.row.prog w) A (compareOp .NotEq (.ref a) (.ref b)) Q E s := by
  obtain ⟨a1, r1⟩ := T1.1.reads X F N h1
  obtain ⟨a2, r2⟩ := T2.1.reads X F N h2
  obtain ⟨a3, r3⟩ := T3.reads X F N h3
  obtain ⟨a4, r4⟩ := T4.reads X F N h4
  have rA : Reads s.heap (.ref a) (.tuple [tupD q1, tupD q2]) _ := reads_tuple_at (N.get ha) rfl rfl (ReadsAll.cons r1 (ReadsAll.cons r2 ReadsAll.nil))
  have rB : Reads s.heap (.ref b) (.tuple [tupD q1, tupD q2]) _ := reads_tuple_at (N.get hb) rfl rfl (ReadsAll.cons r3 (ReadsAll.cons r4 ReadsAll.nil))
  have hsh : SeqAt.shaped (.tuple [tupD q1, tupD q2]) = true := by simp [SeqAt.shaped, PyData.canLay0, PyData.canLayAll0, PyData.depth, PyData.depthAll]
  have heq : PyData.eqv (.tuple [tupD q1, tupD q2]) (.tuple [tupD q1, tupD q2]) = true := by simp [PyData.eqv, PyData.eqvAll]
  exact ne_dataH rA rB hsh hsh hu (by rw [heq]; exact h)
theorem eq_bit {a b : Int} {t u : Tok} {prog : Program} (h : ∀ c : Bool, Q (.bool c) s) : wpAny (model prog w) A (compareOp .Eq (.int a t) (.int b u)) Q E s := PyProof.Rows.eq_int (h _)
end
theorem listIn_mk {news : List (Addr × Obj)} {l : Addr} {ws : List Value} {ns : List Int} (hI : IntsAre ws (ns.take 24)) (hm : (l, W.listOf ws.toArray 0) ∈ news) : ListIn news l := ⟨ws, _, hm, hI, by rw [List.length_take]; omega⟩
end Mine
namespace Mine
theorem news_swap {h₀ h : Heap} {L : Addr} {tl news : List (Addr × Obj)} (N : News h₀ L h (tl ++ news)) : News h₀ L h (news ++ tl) := fun p hp => N p ((List.mem_append.mp hp).elim (fun h => List.mem_append_right _ h) fun h => List.mem_append_left _ h)
/-- a pair's places, to be found again -/
def PairM (a : Addr) (x y : Value) (c : Nat) : Prop := True
theorem pairM (a : Addr) (x y : Value) (c : Nat) : PairM a x y c := trivial
local macro_rules | `(tactic| walk_at "call ref") => `(tactic| (k_here; (with_reducible show wpAny _ _ (call (Value.ref 90) [Value.ref _, Value.int _ _]) _ _ _); k_dflt (refine' useD (drawn_c _ _ _ _ _ _ _ ?n1 ?n2) ?k1 ?k2 ?k3 ?k4 ?k5 ?kK ?kl ?kd ?ku ?_; (case k1 => k_asm); (case k2 => k_asm); (case k3 => k_asm); (case k4 => k_asm); (case k5 => k_asm); (case kK => first | exact rfl | assumption); (case kl => exact listIn_mk (by assumption) (by k_mem)); (case kd => ktr_room); (case ku => ktr_units); (case n1 => omega); (case n2 => omega); intro W9 P9 D9 t9 u9 c9 h9 tk9 b1 b2 b3 b4 F9 N9; (have m9 := pairM D9 (.int W9 t9) (.int P9 u9) c9); (try dsimp only); (try k_fold))))
local macro_rules | `(tactic| walk_at "call ref") => `(tactic| (k_here; (with_reducible show wpAny _ _ (call (Value.ref 83) [Value.ref _, Value.int _ _]) _ _ _); k_dflt (refine' useA (number_c _ _ _ _ _ _ _ ?n1 ?n2) ?k1 ?k2 ?k3 ?k4 ?k5 ?kK ?kl ?kd ?ku ?_; (case k1 => k_asm); (case k2 => k_asm); (case k3 => k_asm); (case k4 => k_asm); (case k5 => k_asm); (case kK => first | exact rfl | assumption); (case kl => exact listIn_mk (by assumption) (by k_mem)); (case kd => ktr_room); (case ku => ktr_units); (case n1 => omega); (case n2 => omega); intro x9 t9 h9 tk9 F9 N9; (try dsimp only); (try k_fold))))
local macro_rules | `(tactic| walk_at "call ref") => `(tactic| (k_here; (with_reducible show wpAny _ _ (call (Value.ref 97) [Value.int _ _, Value.int _ _]) _ _ _); k_dflt (refine' useT (told_c _ _ _ _ _ _ _ _) ?k1 ?k2 ?k3 ?k4 ?k5 ?kK ?kl ?kd ?ku ?_; (case k1 => k_asm); (case k2 => k_asm); (case k3 => k_asm); (case k4 => k_asm); (case k5 => k_asm); (case kK => first | exact rfl | assumption); (case kl => trivial); (case kd => ktr_room); (case ku => ktr_units);  intro v9 tl9 h9 tk9 F9 N9 hT9; (replace N9 := news_swap N9); (try simp only [List.cons_append, List.nil_append, List.append_assoc] at N9); obtain ⟨a9, e9⟩ := TupIn.ref hT9; subst e9; (try dsimp only); (try k_fold))))
local macro_rules | `(tactic| walk_at "call ref") => `(tactic| (k_here; (with_reducible show wpAny _ _ (call (Value.ref 52) [Value.int _ _, Value.int _ _]) _ _ _); k_dflt (refine' useU (from_man_exp_c _ _ _ _ _ _ _ _) ?k1 ?k2 ?k3 ?k4 ?k5 ?kK ?kl ?kd ?ku ?_; (case k1 => k_asm); (case k2 => k_asm); (case k3 => k_asm); (case k4 => k_asm); (case k5 => k_asm); (case kK => first | exact rfl | assumption); (case kl => trivial); (case kd => ktr_room); (case ku => ktr_units);  intro v9 tl9 h9 tk9 F9 N9 hT9; (replace N9 := news_swap N9); (try simp only [List.cons_append, List.nil_append, List.append_assoc] at N9); obtain ⟨a9, e9⟩ := TupIn.ref hT9.1; subst e9; (try dsimp only); (try k_fold))))

local macro_rules | `(tactic| walk_at "call ref") => `(tactic| (k_here; (with_reducible show wpAny _ _ (call (Value.ref 104) [Value.int _ _, Value.int _ _, Value.int _ _, Value.str _ _]) _ _ _); k_dflt (refine' useT (rounded_c _ _ _ _ _ _ _ _ _ _ _ _ ?n1 ?n2 ?n3) ?k1 ?k2 ?k3 ?k4 ?k5 ?kK ?kl ?kd ?ku ?_; (case k1 => k_asm); (case k2 => k_asm); (case k3 => k_asm); (case k4 => k_asm); (case k5 => k_asm); (case kK => first | exact rfl | assumption); (case kl => trivial); (case kd => ktr_room); (case ku => ktr_units); (case n1 => with_reducible first | exact big_add (big_a (by assumption) (by assumption) (by assumption) (by assumption) (by assumption) (by assumption) (by assumption) (by assumption) (by assumption) (by assumption) (by assumption)) | exact big_sub (big_a (by assumption) (by assumption) (by assumption) (by assumption) (by assumption) (by assumption) (by assumption) (by assumption) (by assumption) (by assumption) (by assumption))); (case n2 => assumption); (case n3 => exact m_hi (by assumption)); intro v9 tl9 h9 tk9 F9 N9 hT9; (replace N9 := news_swap N9); (try simp only [List.cons_append, List.nil_append, List.append_assoc] at N9); obtain ⟨a9, e9⟩ := TupIn.ref hT9; subst e9; (try dsimp only); (try k_fold))))
local macro_rules | `(tactic| walk_at "call ref") => `(tactic| (k_here; (with_reducible show wpAny _ _ (call (Value.ref 68) [Value.ref _, Value.ref _, Value.int _ _, Value.str _ _]) _ _ _); k_dflt (refine' useT (add_c _ _ _ _ _ _ _ _ _ _ _ _ _ _ _ _ _ add4 ?n0 ?n1 ?n2 ?n3 ?n4 ?n5 ?n6 ?n7 ?n8) ?k1 ?k2 ?k3 ?k4 ?k5 ?kK ?kl ?kd ?ku ?_; (case k1 => k_asm); (case k2 => k_asm); (case k3 => k_asm); (case k4 => k_asm); (case k5 => k_asm); (case kK => first | exact rfl | assumption); (case kl => (exact ⟨TupU.mono (by assumption) (by tb_rel), TupU.mono (by assumption) (by tb_rel)⟩)); (case kd => ktr_room); (case ku => ktr_units); (case n0 => exact .inl rfl); (case n1 => exact w64 (by assumption) (by assumption)); (case n2 => exact w64 (by assumption) (by assumption)); (case n3 => exact p_lo (by assumption)); (case n4 => exact p_hi (by assumption)); (case n5 => exact p_lo (by assumption)); (case n6 => exact p_hi (by assumption)); (case n7 => assumption); (case n8 => exact m_hi (by assumption));  intro v9 tl9 h9 tk9 F9 N9 hT9; (replace N9 := news_swap N9); (try simp only [List.cons_append, List.nil_append, List.append_assoc] at N9); obtain ⟨a9, e9⟩ := TupIn.ref hT9; subst e9; (try dsimp only); (try k_fold))))
local macro_rules | `(tactic| walk_at "call ref") => `(tactic| (k_here; (with_reducible show wpAny _ _ (call (Value.ref 76) [Value.ref _, Value.ref _, Value.int _ _, Value.str _ _]) _ _ _); k_dflt (refine' useT (sub_c _ _ _ _ _ _ _ _ _ _ _ _ _ _ ?n1 ?n2 ?n3 ?n4 ?n5 ?n6 ?n7 ?n8) ?k1 ?k2 ?k3 ?k4 ?k5 ?kK ?kl ?kd ?ku ?_; (case k1 => k_asm); (case k2 => k_asm); (case k3 => k_asm); (case k4 => k_asm); (case k5 => k_asm); (case kK => first | exact rfl | assumption); (case kl => (exact ⟨TupU.mono (by assumption) (by tb_rel), TupU.mono (by assumption) (by tb_rel)⟩)); (case kd => ktr_room); (case ku => ktr_units); (case n1 => exact w64 (by assumption) (by assumption)); (case n2 => exact w64 (by assumption) (by assumption)); (case n3 => exact p_lo (by assumption)); (case n4 => exact p_hi (by assumption)); (case n5 => exact p_lo (by assumption)); (case n6 => exact p_hi (by assumption)); (case n7 => assumption); (case n8 => exact m_hi (by assumption));  intro v9 tl9 h9 tk9 F9 N9 hT9; (replace N9 := news_swap N9); (try simp only [List.cons_append, List.nil_append, List.append_assoc] at N9); obtain ⟨a9, e9⟩ := TupIn.ref hT9; subst e9; (try dsimp only); (try k_fold))))
theorem way_at {prog : Program} {w : World} {A : Around} {E : Value → Shared → Prop} {s : Shared} {Q : Value → Shared → Prop} {x : Int} {wy : Way} {value slice : PySem.Expr} {t u : Tok} (h : ∀ (wy : Way) (t' : Tok) (tk : Nat), Q (.str wy.str t') { s with toks := tk })
    (hr : fitsSsize x = true) (h1 : -((Str.ofString "nfcud").length : Int) ≤ x) (h2 : x < (Str.ofString "nfcud").length) (e : Txt.item (Str.ofString "nfcud") x = wy.str)
    (hs : subscripted slice false (.str (Str.ofString "nfcud") t) (.int x u) = operate [.str (Str.ofString "nfcud") t, .int x u] (getItem (.str (Str.ofString "nfcud") t) (.int x u))) (ht : ∀ r, letTemporaryGo value (.str (Str.ofString "nfcud") t) r = pure ()) :
    wpAny (model prog w) A (subscriptTail value slice (.str (Str.ofString "nfcud") t) (.int x u)) Q E s :=
  item_str hr h1 h2 (fun _ => by rw [e]; exact h wy _ _) hs ht
theorem way_line {prog : Program} {w : World} {A : Around} {E : Value → Shared → Prop} {s : Shared} {Q : Value → Shared → Prop} {x : Int} {value slice : PySem.Expr} {t u : Tok} (h0 : 0 ≤ x) (h1 : x ≤ 4) (h : ∀ (wy : Way) (t' : Tok) (tk : Nat), Q (.str wy.str t') { s with toks := tk })
    (hs : subscripted slice false (.str (Str.ofString "nfcud") t) (.int x u) = operate [.str (Str.ofString "nfcud") t, .int x u] (getItem (.str (Str.ofString "nfcud") t) (.int x u))) (ht : ∀ r, letTemporaryGo value (.str (Str.ofString "nfcud") t) r = pure ()) :
    wpAny (model prog w) A (subscriptTail value slice (.str (Str.ofString "nfcud") t) (.int x u)) Q E s := by
  have c : x = 0 ∨ x = 1 ∨ x = 2 ∨ x = 3 ∨ x = 4 := by omega
  rcases c with rfl | rfl | rfl | rfl | rfl
  · exact way_at (wy := .n) h (by decide +kernel) (by decide +kernel) (by decide +kernel) (by decide +kernel) hs ht
  · exact way_at (wy := .f) h (by decide +kernel) (by decide +kernel) (by decide +kernel) (by decide +kernel) hs ht
  · exact way_at (wy := .c) h (by decide +kernel) (by decide +kernel) (by decide +kernel) (by decide +kernel) hs ht
  · exact way_at (wy := .u) h (by decide +kernel) (by decide +kernel) (by decide +kernel) (by decide +kernel) hs ht
  · exact way_at (wy := .d) h (by decide +kernel) (by decide +kernel) (by decide +kernel) (by decide +kernel) hs ht
local macro_rules | `(tactic| walk_at "subscriptTail Constant str BinOp str int") => `(tactic| (k_here; (with_reducible show wpAny _ _ (subscriptTail _ _ (Value.str _ _) (Value.int _ _)) _ _ _); k_dflt (refine' way_line ?h0 ?h1 ?_ ?hs ?ht); (case h0 => assumption); (case h1 => assumption); (case hs => with_unfolding_all rfl); (case ht => (intro _; with_unfolding_all rfl)); intro wy9 t9 tk9; (try dsimp only)))
theorem mod61 {prog : Program} {w : World} {A : Around} {E : Value → Shared → Prop} {s : Shared} {x : Int} {t u : Tok} {Q : Value → Shared → Prop} (h : ∀ m : Int, 0 ≤ m → m ≤ 60 → Q (.int m s.toks) { s with toks := s.toks + 1 }) :
    wpAny (model prog w) A (binaryOp .Mod (.int x t) (.int 61 u)) Q E s := mod_int' (by decide) (h _ (fmod_lo x (by decide)) (by have := fmod_hi x (n := 61) (by decide); omega))
theorem mod5 {prog : Program} {w : World} {A : Around} {E : Value → Shared → Prop} {s : Shared} {x : Int} {t u : Tok} {Q : Value → Shared → Prop} (h : ∀ m : Int, 0 ≤ m → m ≤ 4 → Q (.int m s.toks) { s with toks := s.toks + 1 }) :
    wpAny (model prog w) A (binaryOp .Mod (.int x t) (.int 5 u)) Q E s := mod_int' (by decide) (h _ (fmod_lo x (by decide)) (by have := fmod_hi x (n := 5) (by decide); omega))
local macro_rules | `(tactic| walk_at "binaryOp Mod int int") => `(tactic| (k_here; (with_reducible refine mod61 ?_); intro m9 hm9 hm9'; (try dsimp only)))
local macro_rules | `(tactic| walk_at "binaryOp Mod int int") => `(tactic| (k_here; (with_reducible refine mod5 ?_); intro i9 hi9 hi9'; (try dsimp only)))
theorem min_line {prog : Program} {w : World} {A : Around} {E : Value → Shared → Prop} {s : Shared} {h₀ : Heap} {L : Addr} {m : PySem.Str → Option Value} {news : List (Addr × Obj)} {a b : Int} {t u : Tok} {Q : Value → Shared → Prop} (hh : A.handled = none) (F : Fr h₀ L s.heap m) (N : News h₀ L s.heap news)
    (h : ∀ (l : Int) (t' : Tok) (h' : Heap) (tk : Nat), l = min a b → Fr h₀ L h' m → News h₀ L h' news → Q (.int l t') { s with heap := h', toks := tk }) : wpAny (model prog w) A (call (.builtin "min") [.int a t, .int b u]) Q E s :=
  min_two_N hh F N fun h' tk F' N' => h _ _ h' tk (by split <;> omega) F' N'
local macro_rules | `(tactic| walk_at "call builtin:min") => `(tactic| (k_here; (with_reducible show wpAny _ _ (call (Value.builtin "min") [Value.int _ _, Value.int _ _]) _ _ _); k_dflt (refine' min_line ?hh ?k2 ?k4 ?_; (case hh => rfl); (case k2 => k_asm); (case k4 => k_asm); intro l9 t9 h9 tk9 e9 F9 N9; (try dsimp only); (try k_fold))))
local macro_rules | `(tactic| walk_at "binaryOp Pow int int") => `(tactic| (k_here; with_reducible refine pow_int_small ?_ ?_ (by decide) ?_; (with_reducible first | exact e_lo1 (by assumption) | exact e_lo2 (by assumption)); (with_reducible first | exact e_hi1 (by assumption) (by assumption) (by assumption) (by assumption) (by assumption) | exact e_hi2 (by assumption) (by assumption) (by assumption) (by assumption) (by assumption))))
theorem mul_line {prog : Program} {w : World} {A : Around} {E : Value → Shared → Prop} {s : Shared} {a b : Int} {t u : Tok} {Q : Value → Shared → Prop} (h1 : -500000 ≤ a) (h2 : a ≤ 500002) (h : ∀ c : Int, c = a * b → Q (.int c s.toks) { s with toks := s.toks + 1 }) :
    wpAny (model prog w) A (binaryOp .Mult (.int a t) (.int b u)) Q E s := PyProof.Rows.mul_int (h _ rfl) (ok_w h1 h2)
local macro_rules | `(tactic| walk_at "binaryOp Mult int int") => `(tactic| (k_here; (with_reducible refine mul_line (by assumption) (by assumption) ?_); intro c9 ec9; (try dsimp only)))
local macro_rules | `(tactic| walk_at "compareOp Eq int int") => `(tactic| (k_here; (with_reducible refine eq_bit ?_); intro b9))
local macro_rules | `(tactic| walk_at "ite") => `(tactic| (k_here; first | (refine ite_pos (by with_reducible assumption) ?_; walk_say "PRUNED") | (refine ite_neg (by with_reducible assumption) ?_; walk_say "PRUNED") | (refine ite_isFalse (by with_reducible assumption) ?_; walk_say "PRUNED")))
local macro_rules | `(tactic| tb_rel) => `(tactic| (intro p9 hp9; simp only [List.mem_cons, List.mem_append, hp9, true_or, or_true]))
local macro_rules | `(tactic| kwd_rel) => `(tactic| with_reducible first | exact law_back (by assumption) (by assumption) (by assumption) (by assumption) | exact law_add_r (by assumption) (by assumption) (by assumption) (by assumption) | exact law_add_t (by assumption) (by assumption) (by assumption) (by assumption) (by assumption) | exact law_sub_r (by assumption) (by assumption) (by assumption) (by assumption) | exact law_sub_t (by assumption) (by assumption) (by assumption) (by assumption) (by assumption))
local macro_rules | `(tactic| walk_at "compareOp NotEq ref ref") => `(tactic| (k_here; (with_reducible show wpAny _ _ (compareOp CmpOp.NotEq (Value.ref _) (Value.ref _)) _ _ _); k_dflt (refine' ne_any ?X ?F ?N ?T1 ?T2 ?h1 ?h2 ?hu ?_); (case X => k_asm); (case F => k_asm); (case N => k_asm); (case T1 => with_reducible assumption); (case T2 => with_reducible assumption); (case h1 => tb_rel); (case h2 => tb_rel); (case hu => ke_room); intro b9))
local macro_rules | `(tactic| walk_at "compareOp NotEq ref ref") => `(tactic| (k_here; (with_reducible show wpAny _ _ (compareOp CmpOp.NotEq (Value.ref _) (Value.ref _)) _ _ _); k_dflt (refine' ne_tup ?X ?F ?N ?T1 ?T2 ?h1 ?h2 ?hu ?e ?_); (case X => k_asm); (case F => k_asm); (case N => k_asm); (case T1 => with_reducible assumption); (case T2 => with_reducible assumption); (case h1 => tb_rel); (case h2 => tb_rel); (case hu => ke_room); (case e => kwd_rel)))
local macro_rules | `(tactic| walk_at "compareOp NotEq ref ref") => `(tactic| (k_here; (with_reducible show wpAny _ _ (compareOp CmpOp.NotEq (Value.ref _) (Value.ref _)) _ _ _); k_dflt (refine' ne_pair ?X ?F ?N ?T1 ?T2 ?T3 ?T4 ?ha ?hb ?h1 ?h2 ?h3 ?h4 ?hu ?_); (case X => k_asm); (case F => k_asm); (case N => k_asm); (case hb => exact List.mem_cons_self); (case ha => exact List.mem_cons_of_mem _ List.mem_cons_self); (case T1 => with_reducible assumption); (case T2 => with_reducible assumption); (case T3 => with_reducible assumption); (case T4 => with_reducible assumption); (case h1 => tb_rel); (case h2 => tb_rel); (case h3 => tb_rel); (case h4 => tb_rel); (case hu => ke_room)))
local macro_rules | `(tactic| walk_at "compareOp Eq ref ref") => `(tactic| (k_here; (with_reducible show wpAny _ _ (compareOp CmpOp.Eq (Value.ref _) (Value.ref _)) _ _ _); k_dflt (refine' eq_tup ?X ?F ?N ?T1 ?T2 ?h1 ?h2 ?hu ?e ?_); (case X => k_asm); (case F => k_asm); (case N => k_asm); (case T1 => with_reducible assumption); (case T2 => with_reducible assumption); (case h1 => tb_rel); (case h2 => tb_rel); (case hu => ke_room); (case e => kwd_rel)))
theorem pair0 {prog : Program} {w : World} {A : Around} {E : Value → Shared → Prop} {s : Shared} {h₀ : Heap} {L a : Addr} {news : List (Addr × Obj)} {x y : Value} {c : Nat} {u : Tok} {value slice : PySem.Expr} {Q : Value → Shared → Prop} (hp : PairM a x y c) (N : News h₀ L s.heap news)
    (hm : (a, ({ cls := .type "tuple", data := .seq #[x, y] c } : Obj)) ∈ news) (h : Q x s) (hs : subscripted slice false (.ref a) (.int 0 u) = operate [.ref a, .int 0 u] (getItem (.ref a) (.int 0 u))) :
    wpAny (model prog w) A (subscriptTail value slice (.ref a) (.int 0 u)) Q E s := item_tupleT (l := [x, y]) (j := 0) (News.isTup N hm) (by decide) (by decide) rfl rfl h hs
theorem pair1 {prog : Program} {w : World} {A : Around} {E : Value → Shared → Prop} {s : Shared} {h₀ : Heap} {L a : Addr} {news : List (Addr × Obj)} {x y : Value} {c : Nat} {u : Tok} {value slice : PySem.Expr} {Q : Value → Shared → Prop} (hp : PairM a x y c) (N : News h₀ L s.heap news)
    (hm : (a, ({ cls := .type "tuple", data := .seq #[x, y] c } : Obj)) ∈ news) (h : Q y s) (hs : subscripted slice false (.ref a) (.int 1 u) = operate [.ref a, .int 1 u] (getItem (.ref a) (.int 1 u))) :
    wpAny (model prog w) A (subscriptTail value slice (.ref a) (.int 1 u)) Q E s := item_tupleT (l := [x, y]) (j := 1) (News.isTup N hm) (by decide) (by decide) rfl rfl h hs
local macro_rules | `(tactic| walk_at "subscriptTail Name Constant ref int") => `(tactic| (k_here; (with_reducible show wpAny _ _ (subscriptTail _ _ (Value.ref _) (Value.int 0 _)) _ _ _); k_dflt (refine' pair0 ?p ?N ?m ?_ ?s); (case p => with_reducible assumption); (case N => k_asm); (case m => k_mem); (case s => with_unfolding_all rfl)))
local macro_rules | `(tactic| walk_at "subscriptTail Name Constant ref int") => `(tactic| (k_here; (with_reducible show wpAny _ _ (subscriptTail _ _ (Value.ref _) (Value.int 1 _)) _ _ _); k_dflt (refine' pair1 ?p ?N ?m ?_ ?s); (case p => with_reducible assumption); (case N => k_asm); (case m => k_mem); (case s => with_unfolding_all rfl)))

theorem post_ok (x : WData) : WTm.value PySem.Challenge.rw_bw0024_01.row.records PySem.Challenge.rw_bw0024_01.row.post { args := [x], res := some (WData.bool true), after := [x] } = some (WData.bool true) := by
  show WTm.value [] (.eq .res (.lit (.bool true))) _ = _
  simp [WTm.value]
  first | rfl | decide | simp [W.same] | (unfold W.same; simp)
local macro_rules | `(tactic| wrow_close) => `(tactic| (w_end; (with_reducible show GoodW _ _ _ _ _ (.ok (.ret (.bool _))) _); refine goodW_bool (by assumption) (by assumption) (raisesW_false ?_) ?_; (· wrow_none_raised); (· exact postW_of (by wrow_shape) (post_ok _) rfl); walk_say "CLOSE bool"))
set_option maxHeartbeats 8000000 in
theorem law_h : PySem.Challenge.rw_bw0024_01.Holds := Mine.hd (by
  w_on
  w_strict k_go0
  (all_goals try k_fold)
  repeat' (first | (k_unfold; (try dsimp only)) | (k_end; wrow_close) | walk1 | (dsimp only; walk1) | (leave1; walk_say "STEP leave1"; try dsimp only) | fail "no step")
  )
end Mine
theorem PySem.Challenge.cw_bw0024_01_holds : PySem.Challenge.rw_bw0024_01.Holds := by
  exact Mine.law_h
