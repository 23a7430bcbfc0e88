import PyProof.Rows.All
import Wide.All
import OpenK.AllK
import Wide.FinOn
import Lean
import PySem.Challenge.RW_xi0006_01
set_option Elab.async false
set_option rowWalk.seconds 0
section
open PySem PySem.W PyProof.Rows
set_option Elab.async false
namespace Mine
set_option maxRecDepth 100000 in
set_option maxHeartbeats 8000000 in
open_top hd for PySem.Challenge.rw_xi0006_01
end Mine
end
theorem Mine.walk_off_P1 : True := by
  w_top off
  exact True.intro
section
open PySem
namespace Mine

theorem bitNot_toNat (x : Int) (h : 0 ≤ x) : (Builtin.bitNot (Builtin.bitNot x)) = x := by
  unfold Builtin.bitNot; omega
theorem bitOr_pos (x y : Int) (hx : 0 ≤ x) (hy : 0 ≤ y) : Builtin.bitOr x y = ((x.toNat ||| y.toNat : Nat) : Int) := by
  have h1 : ¬ (0 ≤ Builtin.bitNot x) := by unfold Builtin.bitNot; omega
  have h2 : ¬ (0 ≤ Builtin.bitNot y) := by unfold Builtin.bitNot; omega
  unfold Builtin.bitOr
  rw [PyProof.Rows.bitAnd_nn h1 h2, bitNot_toNat _ hx, bitNot_toNat _ hy, bitNot_toNat]
  omega
theorem bitOr_shift (x y : Int) (k : Nat) (hx : 0 ≤ x) (hy : 0 ≤ y) (hk : y < 2 ^ k) : Builtin.bitOr (x * 2 ^ k) y = x * 2 ^ k + y := by
  have hp : (0 : Int) ≤ x * 2 ^ k := Int.mul_nonneg hx (Int.le_of_lt (Int.pow_pos (by decide)))
  rw [bitOr_pos _ _ hp hy]
  obtain ⟨a, rfl⟩ := Int.eq_ofNat_of_zero_le hx
  obtain ⟨b, rfl⟩ := Int.eq_ofNat_of_zero_le hy
  have e : ((a : Int) * 2 ^ k).toNat = a <<< k := by
    rw [Nat.shiftLeft_eq]
    have : ((a : Int) * 2 ^ k) = ((a * 2 ^ k : Nat) : Int) := by simp
    rw [this]; rfl
  have hb : b < 2 ^ k := by
    have : ((b : Int)) < ((2 ^ k : Nat) : Int) := by simpa using hk
    exact Int.ofNat_lt.mp this
  rw [e, Int.toNat_natCast, ← Nat.shiftLeft_add_eq_or_of_lt hb]
  rw [Nat.shiftLeft_eq]
  simp
theorem bitAnd_mask (x : Int) (k : Nat) (hx : 0 ≤ x) : Builtin.bitAnd x (2 ^ k - 1) = x % 2 ^ k := by
  have hp : (0 : Int) < 2 ^ k := Int.pow_pos (by decide)
  rw [PyProof.Rows.bitAnd_pp hx (by omega)]
  obtain ⟨a, rfl⟩ := Int.eq_ofNat_of_zero_le hx
  have e : ((2 : Int) ^ k - 1).toNat = 2 ^ k - 1 := by
    have : ((2 : Int) ^ k) = ((2 ^ k : Nat) : Int) := by simp
    rw [this]; omega
  rw [e, Int.toNat_natCast, Nat.and_two_pow_sub_one_eq_mod]
  simp
theorem bitAnd_mask1 (x : Int) (k : Nat) (hx : 0 ≤ x) : Builtin.bitAnd x (1 * 2 ^ k - 1) = x % 2 ^ k := by
  rw [Int.one_mul]; exact bitAnd_mask x k hx
theorem intBits_le (x : Int) (k : Nat) (hx : 0 ≤ x) (h : x < 2 ^ k) : Builtin.Int.intBits x ≤ k := by
  unfold Builtin.Int.intBits
  split
  · omega
  · rename_i h0
    have hx0 : x ≠ 0 := by simpa using h0
    have hn : x.natAbs ≠ 0 := by omega
    have hb : x.natAbs < 2 ^ k := by
      have : ((x.natAbs : Int)) < ((2 ^ k : Nat) : Int) := by
        have : ((x.natAbs : Int)) = x := by omega
        rw [this]; simpa using h
      exact Int.ofNat_lt.mp this
    have := (Nat.log2_lt hn).mpr hb
    omega
theorem intBits_lt (x : Int) (hx : 0 < x) : (2 : Int) ^ (Builtin.Int.intBits x - 1) ≤ x ∧ x < 2 ^ (Builtin.Int.intBits x) ∧ 1 ≤ Builtin.Int.intBits x := by
  unfold Builtin.Int.intBits
  have h0 : ¬ ((x == 0) = true) := by simp; omega
  rw [if_neg h0]
  obtain ⟨a, rfl⟩ := Int.eq_ofNat_of_zero_le (Int.le_of_lt hx)
  have ha : a ≠ 0 := by omega
  simp only [Int.natAbs_natCast, Nat.add_sub_cancel]
  refine ⟨?_, ?_, by omega⟩
  · have := Nat.log2_self_le ha
    have : ((2 ^ a.log2 : Nat) : Int) ≤ (a : Int) := Int.ofNat_le.mpr this
    simpa using this
  · have := @Nat.lt_log2_self a
    have : ((a : Nat) : Int) < ((2 ^ (a.log2 + 1) : Nat) : Int) := Int.ofNat_lt.mpr this
    simpa using this

/-- the first guess and what it leaves: q * b + r is the whole, r is less than b -/
theorem d3_first (a12 a3 b1 b2 P b : Int) (hP : 0 < P) (h3 : 0 ≤ a3) (h3' : a3 < P) (hb2 : 0 ≤ b2) (hb2' : b2 < P) (hb : b = b1 * P + b2) (hlt : a12 < b) (he : a12 / P = b1) :
    0 ≤ a12 - b1 * P + b1 → (1 * P - 1) * b + ((a12 - b1 * P + b1) * P + a3 - (1 * P - 1) * b2) = a12 * P + a3 ∧ ((a12 - b1 * P + b1) * P + a3 - (1 * P - 1) * b2) < b := by
  intro _
  have e : (1 * P - 1) * b + ((a12 - b1 * P + b1) * P + a3 - (1 * P - 1) * b2) = a12 * P + a3 := by rw [hb]; grind
  refine ⟨e, ?_⟩
  have h1 : a12 * P + a3 < b * P := by
    have : (a12 + 1) * P ≤ b * P := Int.mul_le_mul_of_nonneg_right (by omega) (by omega)
    have e2 : (a12 + 1) * P = a12 * P + P := by grind
    omega
  have e3 : (1 * P - 1) * b + b = b * P := by grind
  omega
theorem d3_second (a12 a3 b1 b2 P b : Int) (hP : 0 < P) (h3 : 0 ≤ a3) (h3' : a3 < P) (hb1 : 0 < b1) (h12 : 0 ≤ a12) (hb2 : 0 ≤ b2) (hb : b = b1 * P + b2) :
    (a12 / b1) * b + ((a12 % b1) * P + a3 - (a12 / b1) * b2) = a12 * P + a3 ∧ ((a12 % b1) * P + a3 - (a12 / b1) * b2) < b := by
  have hd := Int.mul_ediv_add_emod a12 b1
  have hq : 0 ≤ a12 / b1 := Int.ediv_nonneg h12 (by omega)
  have hr := Int.emod_lt_of_pos a12 hb1
  generalize a12 / b1 = q at *
  generalize a12 % b1 = r at *
  subst hb
  refine ⟨by rw [← hd]; grind, ?_⟩
  have h1 : (r + 1) * P ≤ b1 * P := Int.mul_le_mul_of_nonneg_right (by omega) (by omega)
  have e2 : (r + 1) * P = r * P + P := by grind
  have h4 : 0 ≤ q * b2 := Int.mul_nonneg hq hb2
  omega
theorem d3_last (q r b V : Int) (he : q * b + r = V) (h0 : 0 ≤ r) (h1 : r < b) : q = V / b ∧ r = V % b := by
  have hb : 0 < b := by omega
  subst he
  constructor
  · rw [Int.add_comm, Int.add_mul_ediv_right _ _ (by omega), Int.ediv_eq_zero_of_lt h0 h1]; omega
  · rw [Int.add_comm, Int.add_mul_emod_self_right, Int.emod_eq_of_lt h0 h1]
end Mine
end
theorem Mine.walk_off_P2 : True := by
  w_top off
  exact True.intro
section
open PySem
namespace Mine
/-- what the run asks of the divisor moved up -/
theorem run_facts (x y z : Int) (hx : 0 ≤ x) (hx2 : x < 2 ^ 20) (hy : 0 < y) (hy2 : y < 2 ^ 20)
    (h1 : ((Builtin.Int.intBits y : Int) + 1).fdiv 2 ≤ z) (h2 : (Builtin.Int.intBits x : Int) - (Builtin.Int.intBits y : Int) + 1 ≤ z)
    (h3 : z = ((Builtin.Int.intBits y : Int) + 1).fdiv 2 ∨ z = (Builtin.Int.intBits x : Int) - (Builtin.Int.intBits y : Int) + 1) :
    1 ≤ z ∧ z ≤ 21 ∧ 0 ≤ 2 * z - (Builtin.Int.intBits y : Int) ∧ 2 * z - (Builtin.Int.intBits y : Int) ≤ 42 ∧
    (2 : Int) ^ z.toNat ≤ y * 2 ^ (2 * z - (Builtin.Int.intBits y : Int)).toNat ∧ y * 2 ^ (2 * z - (Builtin.Int.intBits y : Int)).toNat < 2 ^ z.toNat * 2 ^ z.toNat ∧ x < y * 2 ^ z.toNat := by
  have b1 := intBits_le x 20 hx hx2
  have b2 := intBits_le y 20 (by omega) hy2
  obtain ⟨c1, c2, c3⟩ := intBits_lt y hy
  have hfd : ((Builtin.Int.intBits y : Int) + 1).fdiv 2 = ((Builtin.Int.intBits y : Int) + 1) / 2 := Int.fdiv_eq_ediv_of_nonneg _ (by omega)
  rw [hfd] at h1 h3
  have hx3 : x < 2 ^ (Builtin.Int.intBits x) := by
    by_cases h0 : x = 0
    · subst h0; exact Int.pow_pos (by decide)
    · exact (intBits_lt x (by omega)).2.1
  generalize Builtin.Int.intBits y = b at *
  generalize Builtin.Int.intBits x = c at *
  obtain ⟨zn, rfl⟩ := Int.eq_ofNat_of_zero_le (show 0 ≤ z by omega)
  have hz1 : 1 ≤ zn := by omega
  have hz2 : zn ≤ 21 := by omega
  have hbz : b ≤ 2 * zn := by omega
  have eu : (2 * (zn : Int) - (b : Int)).toNat = 2 * zn - b := by omega
  rw [eu, Int.toNat_natCast]
  refine ⟨by omega, by omega, by omega, by omega, ?_, ?_, ?_⟩
  · have e1 : (2 : Int) ^ (b - 1) * 2 ^ (2 * zn - b) = 2 ^ (2 * zn - 1) := by rw [← Int.pow_add]; congr 1; omega
    have m1 : (2 : Int) ^ (b - 1) * 2 ^ (2 * zn - b) ≤ y * 2 ^ (2 * zn - b) := Int.mul_le_mul_of_nonneg_right c1 (Int.le_of_lt (Int.pow_pos (by decide)))
    have m2 : (2 : Int) ^ zn ≤ 2 ^ (2 * zn - 1) := by
      have : ((2 ^ zn : Nat) : Int) ≤ ((2 ^ (2 * zn - 1) : Nat) : Int) := Int.ofNat_le.mpr (Nat.pow_le_pow_right (by decide) (by omega))
      simpa using this
    omega
  · have e1 : (2 : Int) ^ b * 2 ^ (2 * zn - b) = 2 ^ zn * 2 ^ zn := by rw [← Int.pow_add, ← Int.pow_add]; congr 1; omega
    have m1 : y * 2 ^ (2 * zn - b) < (2 : Int) ^ b * 2 ^ (2 * zn - b) := Int.mul_lt_mul_of_pos_right c2 (Int.pow_pos (by decide))
    omega
  · have m1 : (2 : Int) ^ (b - 1) * 2 ^ zn ≤ y * 2 ^ zn := Int.mul_le_mul_of_nonneg_right c1 (Int.le_of_lt (Int.pow_pos (by decide)))
    have e1 : (2 : Int) ^ (b - 1) * 2 ^ zn = 2 ^ (b - 1 + zn) := by rw [← Int.pow_add]
    have m2 : (2 : Int) ^ c ≤ 2 ^ (b - 1 + zn) := by
      have : ((2 ^ c : Nat) : Int) ≤ ((2 ^ (b - 1 + zn) : Nat) : Int) := Int.ofNat_le.mpr (Nat.pow_le_pow_right (by decide) (by omega))
      simpa using this
    omega
/-- the halves of a divisor -/
theorem halves (d P : Int) (k : Nat) (hP : P = 2 ^ k) (h1 : P ≤ d) (h2 : d < P * P) :
    d.fdiv P = d / P ∧ 0 < d / P ∧ d / P < P ∧ Builtin.bitAnd d (P - 1) = d % P ∧ 0 ≤ d % P ∧ d % P < P ∧ d = d / P * P + d % P := by
  subst hP
  have hp : (0 : Int) < 2 ^ k := Int.pow_pos (by decide)
  refine ⟨Int.fdiv_eq_ediv_of_nonneg _ (by omega), ?_, Int.ediv_lt_of_lt_mul hp h2, bitAnd_mask d k (by omega), Int.emod_nonneg _ (by omega), Int.emod_lt_of_pos _ hp, ?_⟩
  · have := (Int.le_ediv_iff_mul_le hp).mpr (show 1 * 2 ^ k ≤ d by omega)
    omega
  · have := Int.mul_ediv_add_emod d (2 ^ k)
    rw [Int.mul_comm] at this; omega
/-- Euclid's run, each divisor as often as its quotient says -/
noncomputable def euc : Nat → Int → Int → Option (List Int × Int)
  | 0, _, _ => none
  | k + 1, over, under => if under = 0 then some ([0], over) else (euc k under (over % under)).map fun p => (List.replicate (over / under).toNat under ++ p.1, p.2)
end Mine
namespace Mine
theorem run_c1 (d P : Int) (k : Nat) (hP : P = 2 ^ k) (hk : k ≤ 21) (h1 : P ≤ d) (h2 : d < P * P) :
    0 ≤ d - 1 ∧ 0 ≤ P - 1 ∧ 0 < d.fdiv P ∧ 0 ≤ Builtin.bitAnd d (P - 1) ∧ d - 1 < 2 ^ 50 ∧ d.fdiv P < 2 ^ 24 ∧ Builtin.bitAnd d (P - 1) < P ∧ d = d.fdiv P * P + Builtin.bitAnd d (P - 1) ∧ (P - 1) * d + (d - 1) = (d - 1) * P + (P - 1) := by
  have hp : 0 < P := by rw [hP]; exact Int.pow_pos (by decide)
  have hP2 : P ≤ 2 ^ 21 := by
    have : ((2 ^ k : Nat) : Int) ≤ ((2 ^ 21 : Nat) : Int) := Int.ofNat_le.mpr (Nat.pow_le_pow_right (by decide) hk)
    rw [hP]; simpa using this
  have hPP : P * P ≤ 2 ^ 21 * 2 ^ 21 := Int.mul_le_mul hP2 hP2 (by omega) (by decide)
  obtain ⟨e1, e2, e3, e4, e5, e6, e7⟩ := halves d P k hP h1 h2
  rw [e1, e4]
  exact ⟨by omega, by omega, e2, e5, by omega, by omega, e6, e7, by grind⟩
theorem run_c2 (x y U P : Int) (k : Nat) (hP : P = 2 ^ k) (hk : k ≤ 21) (hx : 0 ≤ x) (hx2 : x < 2 ^ 20) (hy : 0 < y) (hU : 0 < U) (h2 : y * U < P * P) (h3 : x < y * P) :
    0 ≤ (x * U).fdiv P ∧ 0 ≤ Builtin.bitAnd (x * U) (P - 1) ∧ (x * U).fdiv P < 2 ^ 50 ∧ Builtin.bitAnd (x * U) (P - 1) < P ∧ (x * U).fdiv P < y * U ∧
    (x / y) * (y * U) + (x % y) * U = (x * U).fdiv P * P + Builtin.bitAnd (x * U) (P - 1) ∧ 0 ≤ (x % y) * U ∧ (x % y) * U < y * U ∧ ((x % y) * U).fdiv U = x % y ∧ 0 ≤ x / y ∧ x / y < 2 ^ 20 ∧ 0 ≤ x % y ∧ x % y < 2 ^ 20 := by
  have hp : 0 < P := by rw [hP]; exact Int.pow_pos (by decide)
  have hP2 : P ≤ 2 ^ 21 := by
    have : ((2 ^ k : Nat) : Int) ≤ ((2 ^ 21 : Nat) : Int) := Int.ofNat_le.mpr (Nat.pow_le_pow_right (by decide) hk)
    rw [hP]; simpa using this
  have hPP : P * P ≤ 2 ^ 21 * 2 ^ 21 := Int.mul_le_mul hP2 hP2 (by omega) (by decide)
  have hxU : 0 ≤ x * U := Int.mul_nonneg hx (by omega)
  have hm0 := Int.emod_nonneg x (show y ≠ 0 by omega)
  have hm1 := Int.emod_lt_of_pos x hy
  have e1 : (x * U).fdiv P = (x * U) / P := Int.fdiv_eq_ediv_of_nonneg _ (by omega)
  have e2 : Builtin.bitAnd (x * U) (P - 1) = (x * U) % P := by rw [hP]; exact bitAnd_mask _ k hxU
  have hmx : x % y ≤ x := by
    by_cases h : x < y
    · rw [Int.emod_eq_of_lt hx h]; omega
    · omega
  have hdx : x / y ≤ x := Int.ediv_le_self _ hx
  have hlt : (x * U) / P < y * U := by
    refine Int.ediv_lt_of_lt_mul hp ?_
    have := Int.mul_lt_mul_of_pos_right h3 hU
    have e : y * P * U = y * U * P := by grind
    omega
  rw [e1, e2]
  refine ⟨Int.ediv_nonneg hxU (by omega), Int.emod_nonneg _ (by omega), by omega, Int.emod_lt_of_pos _ hp, hlt, ?_, Int.mul_nonneg hm0 (by omega), Int.mul_lt_mul_of_pos_right hm1 hU, ?_, Int.ediv_nonneg hx (by omega), by omega, hm0, by omega⟩
  · have a1 := Int.mul_ediv_add_emod (x * U) P
    have a2 := Int.mul_ediv_add_emod x y
    have a3 : (x / y) * (y * U) + (x % y) * U = (y * (x / y) + x % y) * U := by grind
    rw [a3, a2, Int.mul_comm _ P]
    omega
  · rw [Int.fdiv_eq_ediv_of_nonneg _ (by omega)]
    exact Int.mul_ediv_cancel _ (by omega)
theorem euc_step {k : Nat} {x y : Int} {l : List Int} {g : Int} (hk : k < 12) (h : euc (12 - k) x y = some (l, g)) (hy : y ≠ 0) :
    ∃ l', euc (12 - (k + 1)) y (x % y) = some (l', g) ∧ l = List.replicate (x / y).toNat y ++ l' := by
  have e : 12 - k = (12 - (k + 1)) + 1 := by omega
  rw [e] at h
  unfold euc at h
  rw [if_neg hy] at h
  obtain ⟨⟨l', g'⟩, h1, h2⟩ := Option.map_eq_some_iff.mp h
  cases h2
  exact ⟨l', h1, rfl⟩
theorem euc_end {k : Nat} {x y : Int} {l : List Int} {g : Int} (hk : k < 12) (h : euc (12 - k) x y = some (l, g)) (hy : y = 0) : l = [0] ∧ g = x := by
  have e : 12 - k = (12 - (k + 1)) + 1 := by omega
  rw [e] at h
  unfold euc at h
  rw [if_pos hy] at h
  cases h
  exact ⟨rfl, rfl⟩
end Mine
end
theorem Mine.walk_off_P3 : True := by
  w_top off
  exact True.intro
section
open PySem
namespace Mine
/-- the letters of a number, the greatest first -/
noncomputable def apl (n : Nat) : List UInt8 := if h : n = 0 then [] else apl (n / 16) ++ [UInt8.ofNat (65 + n % 16)]
termination_by n
decreasing_by omega
theorem apl_zero : apl 0 = [] := by unfold apl; simp
theorem apl_pos {n : Nat} (h : n ≠ 0) : apl n = apl (n / 16) ++ [UInt8.ofNat (65 + n % 16)] := by rw [apl]; simp [h]
theorem apl_length : ∀ (k n : Nat), n < 16 ^ k → (apl n).length ≤ k
  | 0, n, h => by have : n = 0 := by simpa using h
                  subst this; rw [apl_zero]; simp
  | k + 1, n, h => by
    by_cases h0 : n = 0
    · subst h0; rw [apl_zero]; simp
    · rw [apl_pos h0, List.length_append]
      have := apl_length k (n / 16) (by rw [Nat.pow_succ] at h; omega)
      simp; omega
theorem ap_turn {n : Int} {val : List UInt8} {N : Nat} (hn : 0 ≤ n) (hn2 : n < 2 ^ 110) (h0 : n ≠ 0) (hv : apl n.toNat ++ val = apl N) (hlen : N < 2 ^ 110) :
    (0 ≤ n / 16 ∧ n / 16 < 2 ^ 110 ∧ apl (n / 16).toNat ++ (UInt8.ofNat (65 + (n % 16).toNat) :: val) = apl N ∧ N < 2 ^ 110) ∧ (n / 16).toNat < n.toNat := by
  refine ⟨⟨by omega, by omega, ?_, hlen⟩, by omega⟩
  rw [← hv, apl_pos (show n.toNat ≠ 0 by omega)]
  have e1 : (n / 16).toNat = n.toNat / 16 := by omega
  have e2 : (n % 16).toNat = n.toNat % 16 := by omega
  rw [e1, e2]; simp
theorem ap_start {x : Int} (h : x.natAbs < 2 ^ 110) : 0 ≤ (if x < 0 then -x else x) ∧ (if x < 0 then -x else x) < 2 ^ 110 ∧ apl (if x < 0 then -x else x).toNat ++ [] = apl x.natAbs ∧ x.natAbs < 2 ^ 110 := by
  have e : (if x < 0 then -x else x) = (x.natAbs : Int) := by split <;> omega
  rw [e]
  exact ⟨by omega, by omega, by simp, h⟩
theorem ap_len {n : Int} {val : List UInt8} {N : Nat} (hv : apl n.toNat ++ val = apl N) (hN : N < 2 ^ 110) : val.length ≤ 28 := by
  have h1 := apl_length 28 N (Nat.lt_trans hN (by decide))
  rw [← hv, List.length_append] at h1
  omega
end Mine
end
theorem Mine.walk_off_P4 : True := by
  w_top off
  exact True.intro
section
open PySem
namespace Mine
/-- a number by its digits, the least first -/
noncomputable def numOf : List Int → Int
  | [] => 0
  | d :: r => d + 16 * numOf r
theorem numOf_append : ∀ (a b : List Int), numOf (a ++ b) = numOf a + 16 ^ a.length * numOf b
  | [], b => by simp [numOf]
  | d :: r, b => by
    show d + 16 * numOf (r ++ b) = d + 16 * numOf r + 16 ^ (r.length + 1) * numOf b
    rw [numOf_append r b, Int.pow_succ, Int.mul_add, Int.add_assoc, Int.mul_comm (16 ^ r.length) 16, Int.mul_assoc]
theorem numOf_bounds : ∀ (a : List Int), (∀ n ∈ a, 0 ≤ n ∧ n < 16) → 0 ≤ numOf a ∧ numOf a < 16 ^ a.length
  | [], _ => by simp [numOf]
  | d :: r, h => by
    have h1 := h d (.head _)
    have ih := numOf_bounds r fun n hn => h n (.tail _ hn)
    show 0 ≤ d + 16 * numOf r ∧ d + 16 * numOf r < 16 ^ (r.length + 1)
    rw [Int.pow_succ]
    omega
/-- the digits from lo to hi -/
noncomputable def seg (ns : List Int) (lo hi : Nat) : List Int := (ns.drop lo).take (hi - lo)
theorem seg_one {ns : List Int} {lo : Nat} (h : lo < ns.length) : numOf (seg ns lo (lo + 1)) = ns[lo] := by
  unfold seg
  rw [List.drop_eq_getElem_cons h, Nat.add_sub_cancel_left, List.take_succ_cons, List.take_zero]
  show ns[lo] + 16 * 0 = ns[lo]
  omega
theorem seg_len {ns : List Int} {lo hi : Nat} (h : hi ≤ ns.length) : (seg ns lo hi).length = hi - lo := by
  unfold seg
  rw [List.length_take, List.length_drop]
  omega
theorem seg_split {ns : List Int} {lo mid hi : Nat} (h1 : lo ≤ mid) (h2 : mid ≤ hi) (h3 : hi ≤ ns.length) : numOf (seg ns lo hi) = numOf (seg ns lo mid) + 16 ^ (mid - lo) * numOf (seg ns mid hi) := by
  have e : seg ns lo hi = seg ns lo mid ++ seg ns mid hi := by
    unfold seg
    have : hi - lo = (mid - lo) + (hi - mid) := by omega
    rw [this, List.take_add, List.drop_drop, show lo + (mid - lo) = mid by omega]
  rw [e, numOf_append, seg_len (by omega)]
theorem seg_bounds {ns : List Int} {lo hi : Nat} (h : hi ≤ ns.length) (hb : ∀ n ∈ ns, 0 ≤ n ∧ n < 16) : 0 ≤ numOf (seg ns lo hi) ∧ numOf (seg ns lo hi) < 16 ^ (hi - lo) := by
  have := numOf_bounds (seg ns lo hi) fun n hn => hb n (List.mem_of_mem_drop (List.mem_of_mem_take hn))
  rw [seg_len h] at this
  exact this
theorem seg_all (ns : List Int) : seg ns 0 ns.length = ns := by
  unfold seg
  simp
theorem pow16 (k : Nat) : (16 : Int) ^ k = 2 ^ (4 * k) := by rw [Int.pow_mul]; rfl
theorem shift_val {ns : List Int} {lo mid hi : Nat} {n : Int} (h1 : lo ≤ mid) (h2 : mid ≤ hi) (h3 : hi ≤ ns.length) (hn : n = ((mid : Int) - lo) * 4) :
    numOf (seg ns mid hi) * 2 ^ n.toNat + numOf (seg ns lo mid) = numOf (seg ns lo hi) := by
  have e : n.toNat = 4 * (mid - lo) := by omega
  rw [seg_split h1 h2 h3, e, ← pow16, Int.mul_comm, Int.add_comm]
end Mine
end
theorem Mine.walk_off_LP : True := by
  w_top off
  exact True.intro
section
open PySem PySem.W PyProof.Rows
namespace Mine
/-- a place where the walk stops -/
noncomputable def Stop (P : Prop) : Prop := P
theorem Stop.mk {P : Prop} (h : Stop P) : P := h
theorem Stop.out {P : Prop} (h : P) : Stop P := h
/-- a frame map turned at the names of a list -/
noncomputable def ub (m : Str → Option Value) (ps : List (Str × Value)) : Str → Option Value := fun z => match ps.lookup z with | some v => some v | none => m z
theorem ub_eq {m m' : Str → Option Value} {ps : List (Str × Value)} (h1 : ∀ z v, ps.lookup z = some v → m' z = some v) (h2 : ∀ z, ps.lookup z = none → m' z = m z) : ub m ps = m' := by
  funext z
  unfold ub
  cases h : ps.lookup z with
  | none => exact (h2 z h).symm
  | some v => exact (h1 z v h).symm
noncomputable abbrev lk (l : List (Str × Value)) : Str → Option Value := fun y => List.lookup y l

/-- the end of a turn -/
noncomputable def UEnd {σ : Type} (h₀ : Heap) (L : Addr) (s : Shared) (m₀ : Str → Option Value) (Led : σ → List (Addr × Obj)) (ps : σ → List (Str × Value)) (st : List Str) (P : σ → Prop) (s₃ : Shared) : Prop :=
  ∃ c' h' tk m' nw, s₃ = { s with heap := h', toks := tk } ∧ Fr h₀ L h' m' ∧ News h₀ L h' nw ∧ (∀ p ∈ Led c', p ∈ nw) ∧ (∀ z v, (ps c').lookup z = some v → m' z = some v) ∧
    (∀ z, (ps c').lookup z = none → st.contains z = false → m' z = m₀ z) ∧ P c'
noncomputable def UPost {σ : Type} (h₀ : Heap) (L : Addr) (s : Shared) (m₀ : Str → Option Value) (Led : σ → List (Addr × Obj)) (ps : σ → List (Str × Value)) (st : List Str) (P : σ → Prop) (Q : Flow → Shared → Prop) (f : Flow) (s₃ : Shared) : Prop :=
  match f with
  | .ret v => Q (.ret v) s₃
  | .brk => Q .next s₃
  | _ => UEnd h₀ L s m₀ Led ps st P s₃
theorem UEnd.intro {σ : Type} {h₀ : Heap} {L : Addr} {s : Shared} {m₀ : Str → Option Value} {Led : σ → List (Addr × Obj)} {ps : σ → List (Str × Value)} {st : List Str} {P : σ → Prop} {h' : Heap} {tk : Nat} {m' : Str → Option Value} {nw : List (Addr × Obj)}
    (F : Fr h₀ L h' m') (N : News h₀ L h' nw) (c' : σ) (hl : ∀ p ∈ Led c', p ∈ nw) (h1 : ∀ z v, (ps c').lookup z = some v → m' z = some v) (h2 : ∀ z, (ps c').lookup z = none → st.contains z = false → m' z = m₀ z) (hP : P c') :
    UEnd h₀ L s m₀ Led ps st P { s with heap := h', toks := tk } := ⟨c', h', tk, m', nw, rfl, F, N, hl, h1, h2, hP⟩
theorem ub_st {h₀ : Heap} {L : Addr} {h : Heap} {m₀ m₁ : Str → Option Value} {ps : List (Str × Value)} {st : List Str} (h1 : ∀ z v, ps.lookup z = some v → m₁ z = some v) (h2 : ∀ z, ps.lookup z = none → st.contains z = false → m₁ z = m₀ z)
    (F : Fr h₀ L h m₁) : Fr h₀ L h (ub (fun z => if st.contains z then m₁ z else m₀ z) ps) := by
  have e : ub (fun z => if st.contains z then m₁ z else m₀ z) ps = m₁ := ub_eq h1 fun z hz => by
    show m₁ z = if st.contains z = true then m₁ z else m₀ z
    cases h3 : st.contains z with
    | true => simp
    | false => simp only [Bool.false_eq_true, if_false]; exact h2 z hz h3
  rw [e]; exact F
section
variable {prog : Program} {w : World} {A : Around} {E : Value → Shared → Prop} {Q : Flow → Shared → Prop} {s : Shared} {env : Env} {h₀ : Heap} {L : Addr}
theorem While_u {test : Expr} {body : List Stmt} {pos : Pos} {m₀ : Str → Option Value} {σ : Type} (Led : σ → List (Addr × Obj)) (ps : σ → List (Str × Value)) (st : List Str) (P : σ → Prop) (μ : σ → Nat) (c₀ : σ)
    (F : Fr h₀ L s.heap m₀) (N : News h₀ L s.heap (Led c₀)) (h1 : ∀ z v, (ps c₀).lookup z = some v → m₀ z = some v) (hP : P c₀)
    (turn : ∀ (c : σ) (u : Str → Option Value) h tk, P c → Fr h₀ L h (ub (fun z => if st.contains z then u z else m₀ z) (ps c)) → News h₀ L h (Led c) →
      wpAny (model prog w) A (isTrue test env (eval test env)) (fun b s₂ =>
        if b = true then wpAny (model prog w) A (execs body env) (UPost h₀ L s m₀ Led ps st (fun c' => P c' ∧ μ c' < μ c) Q) E s₂ else Q .next s₂) E { s with heap := h, toks := tk })
    (hE : PassesOwn (model prog w) A env E := by passes_own) :
    wpAny (model prog w) A (exec (.While test body [] pos) env) Q E s := by
  refine While_inv2 (fun n m nx => ∃ c : σ, nx = Led c ∧ μ c = n ∧ (∀ z v, (ps c).lookup z = some v → m z = some v) ∧ (∀ z, (ps c).lookup z = none → st.contains z = false → m z = m₀ z) ∧ P c) F N ⟨c₀, rfl, rfl, h1, fun _ _ _ => rfl, hP⟩ ?_ hE
  rintro n m₁ nx h tk F₁ N₁ ⟨c, hnx, hsz, k1, k2, hp'⟩
  rw [hnx] at N₁
  rw [← hsz]
  refine wpAny_mono (turn c m₁ h tk hp' (ub_st k1 k2 F₁) N₁) (fun b s₂ p => ?_) fun _ _ x => x
  cases b with
  | false => simpa using p
  | true =>
    simp only [if_true] at p ⊢
    refine wpAny_mono p (fun f s₃ q => ?_) fun _ _ x => x
    cases f with
    | ret v => exact q
    | brk => exact q
    | next =>
      obtain ⟨c', h', tk', m', nw, rfl, F', N', hl, k1', k2', hp9, hm9⟩ := q
      exact ⟨h', tk', m', Led c', μ c', rfl, F', fun p hp => N' p (hl p hp), hm9, c', rfl, rfl, k1', k2', hp9⟩
    | cont =>
      obtain ⟨c', h', tk', m', nw, rfl, F', N', hl, k1', k2', hp9, hm9⟩ := q
      exact ⟨h', tk', m', Led c', μ c', rfl, F', fun p hp => N' p (hl p hp), hm9, c', rfl, rfl, k1', k2', hp9⟩
theorem While_n {test : Expr} {body : List Stmt} {pos : Pos} {m₀ : Str → Option Value} {news : List (Addr × Obj)} {σ : Type} (ps : σ → List (Str × Value)) (st : List Str) (P : σ → Prop) (μ : σ → Nat) (c₀ : σ)
    (F : Fr h₀ L s.heap m₀) (N : News h₀ L s.heap news) (h1 : ∀ z v, (ps c₀).lookup z = some v → m₀ z = some v) (hP : P c₀)
    (turn : ∀ (c : σ) (u : Str → Option Value) h tk, P c → Fr h₀ L h (ub (fun z => if st.contains z then u z else m₀ z) (ps c)) → News h₀ L h news →
      wpAny (model prog w) A (isTrue test env (eval test env)) (fun b s₂ =>
        if b = true then wpAny (model prog w) A (execs body env) (UPost h₀ L s m₀ (fun _ => news) ps st (fun c' => P c' ∧ μ c' < μ c) Q) E s₂ else Q .next s₂) E { s with heap := h, toks := tk })
    (hE : PassesOwn (model prog w) A env E := by passes_own) :
    wpAny (model prog w) A (exec (.While test body [] pos) env) Q E s := While_u (fun _ => news) ps st P μ c₀ F N h1 hP turn hE
end
theorem allLt_ne {d x : Addr} {l : List (Addr × Obj)} (h : AllLt d l) (hx : @LE.le Nat _ d x) : ∀ p ∈ l, p.1 ≠ x := fun p hp e => by
  have := ktn_ltOf h p hp
  rw [e] at this
  exact absurd this (Nat.not_lt.mpr hx)
theorem sub_cons {p : Addr × Obj} {l all : List (Addr × Obj)} (h : p ∈ all) (r : ∀ q ∈ l, q ∈ all) : ∀ q ∈ p :: l, q ∈ all := fun q hq => by
  rcases List.mem_cons.mp hq with rfl | hq
  · exact h
  · exact r q hq
theorem sub_refl {l : List (Addr × Obj)} : ∀ q ∈ l, q ∈ l := fun _ h => h
theorem sub_skip {x : Addr × Obj} {l all : List (Addr × Obj)} (r : ∀ q ∈ l, q ∈ all) : ∀ q ∈ l, q ∈ x :: all := fun q hq => .tail _ (r q hq)
theorem off_cons {p : Addr × Obj} {l : List (Addr × Obj)} {I : Addr} (h : p.1 ≠ I) (r : ∀ q ∈ l, q.1 ≠ I) : ∀ q ∈ p :: l, q.1 ≠ I := fun q hq => by
  rcases List.mem_cons.mp hq with rfl | hq
  · exact h
  · exact r q hq
theorem off_lt {l : List (Addr × Obj)} {I : Addr} (h : ∀ q ∈ l, q.1 < I) : ∀ q ∈ l, q.1 ≠ I := fun q hq => Nat.ne_of_lt (h q hq)
theorem lt_tail {x : Addr × Obj} {l : List (Addr × Obj)} {I : Addr} (h : ∀ q ∈ x :: l, q.1 < I) : ∀ q ∈ l, q.1 < I := fun q hq => h q (.tail _ hq)
/-- the facts of two frames, name by name -/
theorem lkup1 {k : Str} {v : Value} {P : Str → Value → Prop} (h : P k v) : ∀ z u, List.lookup z [(k, v)] = some u → P z u := by
  intro z u e
  rw [List.lookup_cons] at e
  split at e
  · rename_i q; cases e; rw [beq_iff_eq.mp q]; exact h
  · cases e
theorem lkupc {k : Str} {v : Value} {l : List (Str × Value)} {P : Str → Value → Prop} (h : P k v) (r : ∀ z u, List.lookup z l = some u → P z u) : ∀ z u, List.lookup z ((k, v) :: l) = some u → P z u := by
  intro z u e
  rw [List.lookup_cons] at e
  split at e
  · rename_i q; cases e; rw [beq_iff_eq.mp q]; exact h
  · exact r z u e
theorem lkup0 {P : Str → Value → Prop} : ∀ z u, List.lookup z ([] : List (Str × Value)) = some u → P z u := fun _ _ e => nomatch e
theorem lkn_cons {z k : Str} {v : Value} {l : List (Str × Value)} : List.lookup z ((k, v) :: l) = none ↔ z ≠ k ∧ List.lookup z l = none := by
  rw [List.lookup_cons]
  split
  · rename_i q; have := beq_iff_eq.mp q; simp [this]
  · rename_i q; have : z ≠ k := fun e => by rw [e] at q; simp at q
    simp [this]
end Mine
end
theorem Mine.walk_off_LP2 : True := by
  w_top off
  exact True.intro
section
open PySem PySem.W PyProof.Rows PyProof.V PySem.Spec
namespace Mine
noncomputable def FEnd {σ : Type} (h₀ : Heap) (L : Addr) (s : Shared) (I : Addr) (it : Obj) (m₀ : Str → Option Value) (Led : σ → List (Addr × Obj)) (ps : σ → List (Str × Value)) (st : List Str) (P : σ → Prop) (s₃ : Shared) : Prop :=
  ∃ c' h' tk m' nw, s₃ = { s with heap := h', toks := tk } ∧ Fr h₀ L h' m' ∧ News h₀ L h' nw ∧ (I, it) ∈ nw ∧ (∀ p ∈ Led c', p ∈ nw) ∧ (∀ p ∈ Led c', p.1 ≠ I) ∧ (∀ z v, (ps c').lookup z = some v → m' z = some v) ∧
    (∀ z, (ps c').lookup z = none → st.contains z = false → m' z = m₀ z) ∧ P c'
noncomputable def FPost {σ : Type} (h₀ : Heap) (L : Addr) (s : Shared) (I : Addr) (it : Obj) (m₀ : Str → Option Value) (Led : σ → List (Addr × Obj)) (ps : σ → List (Str × Value)) (st : List Str) (P : σ → Prop) (Q : Flow → Shared → Prop) (f : Flow) (s₃ : Shared) : Prop :=
  match f with
  | .ret v => Q (.ret v) s₃
  | .brk => Q .next s₃
  | _ => FEnd h₀ L s I it m₀ Led ps st P s₃
theorem FEnd.intro {σ : Type} {h₀ : Heap} {L : Addr} {s : Shared} {I : Addr} {it : Obj} {m₀ : Str → Option Value} {Led : σ → List (Addr × Obj)} {ps : σ → List (Str × Value)} {st : List Str} {P : σ → Prop} {h' : Heap} {tk : Nat} {m' : Str → Option Value} {nw : List (Addr × Obj)}
    (F : Fr h₀ L h' m') (N : News h₀ L h' nw) (c' : σ) (hI : (I, it) ∈ nw) (hl : ∀ p ∈ Led c', p ∈ nw) (ho : ∀ p ∈ Led c', p.1 ≠ I) (h1 : ∀ z v, (ps c').lookup z = some v → m' z = some v) (h2 : ∀ z, (ps c').lookup z = none → st.contains z = false → m' z = m₀ z) (hP : P c') :
    FEnd h₀ L s I it m₀ Led ps st P { s with heap := h', toks := tk } := ⟨c', h', tk, m', nw, rfl, F, N, hI, hl, ho, h1, h2, hP⟩
section
variable {prog : Program} {w : World} {A : Around} {E : Value → Shared → Prop} {s : Shared} {env : Env} {h₀ : Heap} {x : Str} {body : List Stmt} {Q : Flow → Shared → Prop}
theorem iter_range_u {r : Addr} {a₀ b₀ : Int} {t₀ u₀ v₀ : Tok} {n : Nat} {m₀ : Str → Option Value} {σ : Type} (Led : σ → List (Addr × Obj)) (ps : σ → List (Str × Value)) (st : List Str) (P : Nat → σ → Prop) (c₀ : σ)
    (hh : A.handled = none) (hr : IsRange s.heap r a₀ b₀ 1 t₀ u₀ v₀) (hsmall : Builtin.Range.small a₀ b₀ 1 = true) (hn : Builtin.Range.rangeSize a₀ b₀ 1 = (n : Int)) (F : Fr h₀ env.locals s.heap m₀) (N : News h₀ env.locals s.heap (Led c₀))
    (h1 : ∀ z v, (ps c₀).lookup z = some v → m₀ z = some v) (hP : P 0 c₀)
    (turn : ∀ I (k : Nat) (t : Tok) (c : σ) (u : Str → Option Value) h tk, (∀ p ∈ Led c₀, p.1 < I) → k < n → P k c →
      Fr h₀ env.locals h (fun y => if y = x then some (.int (a₀ + (k : Int)) t) else ub (fun z => if st.contains z then u z else m₀ z) (ps c) y) →
      News h₀ env.locals h ((I, itR (a₀ + ((k + 1 : Nat) : Int)) ((n : Int) - ((k + 1 : Nat) : Int))) :: Led c) → (∀ p ∈ Led c, p.1 ≠ I) →
      wpAny (model prog w) A (execs body env) (FPost h₀ env.locals { s with heap := h, toks := tk } I (itR (a₀ + ((k + 1 : Nat) : Int)) ((n : Int) - ((k + 1 : Nat) : Int))) m₀ Led ps st (P (k + 1)) Q) E { s with heap := h, toks := tk })
    (done : ∀ (c : σ) (u : Str → Option Value) h tk, P n c → Fr h₀ env.locals h (ub (fun z => if st.contains z then u z else m₀ z) (ps c)) → News h₀ env.locals h (Led c) → Q .next { s with heap := h, toks := tk }) :
    wpAny (model prog w) A (pyIter (.ref r)) (fun it s₂ => LoopAtV prog w A h₀ env x body Q E it s₂) E s := by
  refine wpAny_pyIter_range hr hsmall ?_
  have W : Walks prog w A s.heap.objs.size [s.heap.objs.size] [s.heap.objs.size] n (fun i v => i < n ∧ ∃ t, v = .int (a₀ + i * 1) t)
      (fun i h => IsRangeIter h s.heap.objs.size (a₀ + (i : Nat) * 1) ((n : Int) - (i : Nat)) 1) := (Walks.range hh _ a₀ 1 n).bound
  have hnew := next_is_new F
  have hlt : ∀ p ∈ Led c₀, p.1 < s.heap.objs.size := fun p hp => Heap.lt_size (N p hp).1
  let J : Nat → (Str → Option Value) → List (Addr × Obj) → Prop := fun i m₁ news₁ => ∃ c : σ, news₁ = Led c ∧ (∀ z v, (ps c).lookup z = some v → m₁ z = some v) ∧ (∀ z, (ps c).lookup z = none → st.contains z = false → m₁ z = m₀ z) ∧ P i c
  refine ⟨_, _, _, n, _, _, m₀, Led c₀, J, rfl, W, ?_, ?_, ?_, (by show IsRangeIter _ _ _ _ _; rw [hn]; simpa using Heap.get?_push_size _ rfl), F.push _, (fun p hp => ⟨Heap.get?_push_of_some _ (N p hp).1, (N p hp).2⟩), ⟨c₀, rfl, h1, fun _ _ _ => rfl, hP⟩, ?_, ?_⟩
  · intro hm
    exact absurd F.ns.lt ((List.mem_singleton.mp hm) ▸ Nat.lt_irrefl _)
  · intro b hb
    rw [List.mem_singleton.mp hb]
    exact hnew
  · intro p hp hI
    exact absurd (hlt p hp) ((List.mem_singleton.mp hI) ▸ Nat.lt_irrefl _)
  · rintro i v m₁ news₁ s₁ own ⟨hh', tk', rfl⟩ hin ⟨_, t, rfl⟩ ⟨c, rfl, k1, k2, hPc⟩ hoff hown hget hall hst F₁ N₁
    have hst' : hh'.get? s.heap.objs.size = some (itR (a₀ + ((i + 1 : Nat) : Int)) ((n : Int) - ((i + 1 : Nat) : Int))) := by
      have q : IsRangeIter hh' s.heap.objs.size (a₀ + ((i + 1 : Nat) : Int) * 1) ((n : Int) - ((i + 1 : Nat) : Int)) 1 := hst
      rw [Int.mul_one] at q
      exact q
    have hmem := hall s.heap.objs.size (List.mem_singleton.mpr rfl) hnew _ hst'
    have e1 : a₀ + (i : Int) * 1 = a₀ + (i : Int) := by rw [Int.mul_one]
    rw [e1] at F₁
    have N₂ : News h₀ env.locals hh' ((s.heap.objs.size, itR (a₀ + ((i + 1 : Nat) : Int)) ((n : Int) - ((i + 1 : Nat) : Int))) :: Led c) := fun p hp => by
      rcases List.mem_cons.mp hp with rfl | hp
      · exact N₁ _ (List.mem_append_left _ hmem)
      · exact N₁ _ (List.mem_append_right _ hp)
    have em : ub (fun z => if st.contains z then m₁ z else m₀ z) (ps c) = m₁ := ub_eq k1 fun z hz => by
      show m₁ z = if st.contains z = true then m₁ z else m₀ z
      cases h3 : st.contains z with
      | true => simp
      | false => simp only [Bool.false_eq_true, if_false]; exact k2 z hz h3
    have F₂ : Fr h₀ env.locals hh' (fun y => if y = x then some (.int (a₀ + (i : Int)) t) else ub (fun z => if st.contains z then m₁ z else m₀ z) (ps c) y) := by rw [em]; exact F₁
    refine wpAny_mono (turn _ i t c m₁ hh' tk' hlt hin hPc F₂ N₂ (fun p hp hI => hoff p hp (List.mem_singleton.mpr hI))) (fun f s₂ p => ?_) fun _ _ e => e
    have fin : FEnd h₀ env.locals { s with heap := hh', toks := tk' } s.heap.objs.size (itR (a₀ + ((i + 1 : Nat) : Int)) ((n : Int) - ((i + 1 : Nat) : Int))) m₀ Led ps st (P (i + 1)) s₂ →
        LoopStepU h₀ env.locals [s.heap.objs.size] own (J (i + 1)) { s with heap := hh', toks := tk' } .next s₂ := by
      rintro ⟨c', h', tk, m', nw, e, F', N', hIn, hl, ho, j1, j2, hP'⟩
      refine ⟨rfl, h', tk, m', Led c', e, F', fun p hp => ?_, fun p hp hI => ho p hp (List.mem_singleton.mp hI), c', rfl, j1, j2, hP'⟩
      rcases List.mem_append.mp hp with hp | hp
      · have h1 : p.1 = s.heap.objs.size := List.mem_singleton.mp (hown p hp)
        have h2 : hh'.get? p.1 = some p.2 := hget p hp
        have h3 : p = (s.heap.objs.size, itR (a₀ + ((i + 1 : Nat) : Int)) ((n : Int) - ((i + 1 : Nat) : Int))) := by
          rw [h1, hst'] at h2
          exact Prod.ext h1 (Option.some.inj h2).symm
        rw [h3]; exact N' _ hIn
      · exact N' _ (hl p hp)
    cases f with
    | ret v => exact .ret p
    | brk => exact .brk p
    | next => exact .next (fin p)
    | cont => exact .cont (fin p)
  · rintro h' tk m' news' F' N' _ ⟨c, rfl, k1, k2, hPc⟩
    exact done c m' h' tk hPc (ub_st k1 k2 F') N'
end
end Mine
end
theorem Mine.walk_off_BY : True := by
  w_top off
  exact True.intro
section
open PySem PySem.W PyProof.Rows PyProof.V PySem.Spec
set_option maxRecDepth 100000
namespace Mine
section
variable {prog : Program} {w : World} {A : Around} {E : Value → Shared → Prop} {s : Shared} {value slice : PySem.Expr} {b : Array UInt8} {t : Tok} {h₀ : Heap} {L : Addr} {m : PySem.Str → Option Value} {news : List (Addr × Obj)} {l u : Value} {lo hi : Option Int} {Q : Value → Shared → Prop}
theorem bslice (r : Array UInt8) (hF : Fr h₀ L s.heap m) (hN : News h₀ L s.heap news) (hl : IsPart l lo) (hu : IsPart u hi) (hz : b.size ≤ 16777216)
    (hr : ((b.toList.drop (lo.elim 0 (clipAt b.size))).take (hi.elim b.size (clipAt b.size) - lo.elim 0 (clipAt b.size))).toArray = r)
    (h : ∀ h' t' k, Fr h₀ L h' m → News h₀ L h' news → Q (.bytes r t') { s with heap := h', toks := k })
    (hs : subscripted slice false (.bytes b t) (.ref s.heap.objs.size) = operate [.ref s.heap.objs.size, .bytes b t] (getItem (.bytes b t) (.ref s.heap.objs.size)) := by with_unfolding_all rfl)
    (ht : ∀ r, letTemporaryGo value (.bytes b t) r = pure () := by intro _; with_unfolding_all rfl) :
    wpAny (model prog w) A (subscriptTail value slice (.bytes b t) (.ref s.heap.objs.size)) Q E { s with heap := s.heap.push { cls := .type "slice", data := .fields #[l, u, .none] } } :=
  KBc.slice_K hF hN rfl hl hu (by rw [KBw.ints_length]; exact hz) (fun h' t' k F' N' _ => by rw [KBc.picked_eq, hr]; exact h h' t' k F' N') hs ht
end
theorem badd {prog : Program} {w : World} {A : Around} {E : Value → Shared → Prop} {s : Shared} {x y : List UInt8} {t u : Tok} {Q : Value → Shared → Prop} (hz : x.length + y.length ≤ 16777216) (h : ∀ t' k, Q (.bytes (x ++ y).toArray t') { s with toks := k }) :
    wpAny (model prog w) A (binaryOp .Add (.bytes x.toArray t) (.bytes y.toArray u)) Q E s := KBy.add_bytes (by simpa using hz) fun t' k => by
  have e : x.toArray ++ y.toArray = (x ++ y).toArray := by simp
  rw [e]; exact h t' k
theorem ap_pick (k : Int) (h0 : 0 ≤ k) (h1 : k < 16) : ((([65, 66, 67, 68, 69, 70, 71, 72, 73, 74, 75, 76, 77, 78, 79, 80] : List UInt8).drop (clipAt 16 k)).take (clipAt 16 (k + 1) - clipAt 16 k)).toArray = #[UInt8.ofNat (65 + k.toNat)] := by
  have e : (k.toNat : Int) = k := Int.toNat_of_nonneg h0
  have hk : k.toNat < 16 := by omega
  rw [← e, Int.toNat_natCast]
  revert hk
  generalize k.toNat = n
  revert n
  decide +kernel
end Mine
end
theorem Mine.walk_off_CM : True := by
  w_top off
  exact True.intro
section
open PySem PySem.W PyProof.Rows PyProof.V PySem.Spec PySem.Calls
set_option maxRecDepth 100000
namespace Mine
/-- a source of a comprehension: an iterator of its own kind -/
noncomputable def SrcW (prog : Program) (w : World) (A : Around) (h₀ : Heap) (L : Addr) (m : Str → Option Value) (env : Env) (elt : Expr) (x : Str) (scope : Scope) (cl : List (Str × Addr)) (Q : Value → Shared → Prop) (E : Value → Shared → Prop) (xv : Value) (s₁ : Shared) : Prop :=
  ∃ (n : Nat) (P : Nat → Value → Prop) (news : List (Addr × Obj)), Fr h₀ L s₁.heap m ∧ News h₀ L s₁.heap news ∧ n ≤ sizeLine ∧
    (∀ R : Value → Shared → Prop, (∀ (o : Obj) (St : Nat → Heap → Prop), o.isFreed = false → Walks prog w A s₁.heap.objs.size [s₁.heap.objs.size] [s₁.heap.objs.size] n P St → St 0 (s₁.heap.push o) → (∀ i h, St i h → ∃ o, h.get? s₁.heap.objs.size = some o) →
        (∀ i h h' o, St i h → h.get? s₁.heap.objs.size = some o → h'.get? s₁.heap.objs.size = some o → St i h') → R (.ref s₁.heap.objs.size) { s₁ with heap := s₁.heap.push o }) → wpAny (model prog w) A (pyIter xv) R E s₁) ∧
    ∀ g, LCg.CompRest prog w A h₀ L m env elt x scope cl { s₁ with heap := g } (fun _ => True) P (LCg.FinE h₀ L m { s₁ with heap := g } Q) n 0 [] news
section
variable {prog : Program} {w : World} {A : Around} {E : Value → Shared → Prop} {s : Shared} {h₀ : Heap} {L : Addr} {m : Str → Option Value} {env : Env}
theorem ListComp_W {elt iter : Expr} {x : Str} {px : Pos} {scope : Scope} {cl : List (Str × Addr)} {pos : Pos} {Q : Value → Shared → Prop} (_F₀ : Fr h₀ L s.heap m)
    (hclos : closureFor scope env = pure cl) (hcell : ∀ y ∈ scope.names, y.2 ≠ .cell) (hkind : scope.kind = .function)
    (hnames : ∀ y ∈ scope.names, y.2 = .local → scope.names.lookup y.1 = some .local) (hx : scope.names.lookup x = some .local)
    (h : wpAny (model prog w) A (eval iter env) (SrcW prog w A h₀ L m env elt x scope cl Q E) E s)
    (hs : ∀ x, foldedSetIterable iter env x = pure x := by intro _; rfl) :
    wpAny (model prog w) A (eval (.ListComp elt [⟨.Name x px, iter, [], 0⟩] scope pos) env) Q E s := by
  rw [eval_ListComp]
  refine wpAny_comprehension_free (use := none) rfl hs hclos hkind hnames (wpAny_mono h (fun xv s₁ h₁ => ?_) fun _ _ e => e)
  obtain ⟨n, P, news, F, N, hsz, hit, R⟩ := h₁
  refine hit _ fun o St hof W hst hIo hSt => ?_
  have up : ∀ b ob, s₁.heap.get? b = some ob → (s₁.heap.push o).get? b = some ob := fun b ob e => Heap.get?_push_of_some _ e
  refine LCg.block_U W hsz hIo (fun i h h' ob nw st e e' _ _ _ => hSt i h h' ob st e e') hcell hkind hx hst (fun b hb => ?_)
      (F.keeps up) (N.grown up) (Nat.ne_of_lt F.ns.lt) (next_is_new F) (fun p hp => Nat.ne_of_lt (Heap.lt_size (N p hp).1)) trivial (R _) ?_
  · show b < (s₁.heap.push _).objs.size
    rw [Heap.size_push, List.mem_singleton.mp hb]
    exact Nat.lt_succ_self _
  · intro D C h tk m' ys news' F' N' o1 hn hC₀ hD₀ hCL hDL hCD offC fin
    refine ⟨m', hn, fun h'' hs'' => fin D h'' tk (F'.change hs'' hCL hC₀) (fun p hp => ?_) o1⟩
    refine ⟨hs''.extBut _ _ ?_ (N' p hp).1, (N' p hp).2⟩
    rcases List.mem_cons.mp hp with rfl | hp
    · exact Ne.symm hCD
    · exact offC p hp
theorem SrcW.bytes {elt : Expr} {x : Str} {scope : Scope} {cl : List (Str × Addr)} {Q : Value → Shared → Prop} {b : Array UInt8} {t : Tok} {news : List (Addr × Obj)}
    (hh : A.handled = none) (F : Fr h₀ L s.heap m) (N : News h₀ L s.heap news) (hsz : b.size ≤ sizeLine)
    (R : ∀ g, LCg.CompRest prog w A h₀ L m env elt x scope cl { s with heap := g } (fun _ => True) (fun i v => ∃ c u, b[i]? = some c ∧ v = .int (c.toNat : Int) u) (LCg.FinE h₀ L m { s with heap := g } Q) b.size 0 [] news) :
    SrcW prog w A h₀ L m env elt x scope cl Q E (.bytes b t) s :=
  ⟨b.size, _, news, F, N, hsz, fun R hR => KBw.pyIter_bytes (hR _ (fun i h => KBw.IsBytesIter h s.heap.objs.size b t i) rfl (KBw.walks hh _ b t) ⟨_, Heap.get?_push_size _ rfl, rfl, rfl⟩ (fun i h st => by obtain ⟨o, e, _⟩ := st; exact ⟨o, e⟩)
    (fun i h h' o st e e' => by obtain ⟨o', q, r⟩ := st; rw [e] at q; cases q; exact ⟨o, e', r⟩)), R⟩
theorem SrcW.str {elt : Expr} {x : Str} {scope : Scope} {cl : List (Str × Addr)} {Q : Value → Shared → Prop} {b : Str} {t : Tok} {news : List (Addr × Obj)}
    (hh : A.handled = none) (F : Fr h₀ L s.heap m) (N : News h₀ L s.heap news) (hsz : b.cps.size ≤ sizeLine)
    (R : ∀ g, LCg.CompRest prog w A h₀ L m env elt x scope cl { s with heap := g } (fun _ => True) (SignAt b) (LCg.FinE h₀ L m { s with heap := g } Q) b.cps.size 0 [] news) :
    SrcW prog w A h₀ L m env elt x scope cl Q E (.str b t) s :=
  ⟨b.cps.size, _, news, F, N, hsz, fun R hR => by
    cases ha : b.cps.all (· < 128)
    · exact wpAny_pyIter_wide ha (hR _ (fun i h => h.IsStrIter s.heap.objs.size "str_iterator" b t i) rfl (Walks.strWide hh _ b t) ⟨_, Heap.get?_push_size _ rfl, rfl, rfl⟩ (fun i h st => by obtain ⟨o, e, _⟩ := st; exact ⟨o, e⟩)
        (fun i h h' o st e e' => by obtain ⟨o', q, r⟩ := st; rw [e] at q; cases q; exact ⟨o, e', r⟩))
    · exact wpAny_pyIter_ascii ha (hR _ (fun i h => h.IsStrIter s.heap.objs.size "str_ascii_iterator" b t i) rfl (Walks.strAscii hh _ b t) ⟨_, Heap.get?_push_size _ rfl, rfl, rfl⟩ (fun i h st => by obtain ⟨o, e, _⟩ := st; exact ⟨o, e⟩)
        (fun i h h' o st e e' => by obtain ⟨o', q, r⟩ := st; rw [e] at q; cases q; exact ⟨o, e', r⟩)), R⟩
/-- the turns, item by item: what an item gives, of a relation -/
theorem comp_rest {α : Type} {elt : Expr} {x : Str} {scope : Scope} {cl : List (Str × Addr)} {S : List (Addr × Obj) → Prop} {P : Nat → Value → Prop} {Fin : List Value → List (Addr × Obj) → Prop} {news : List (Addr × Obj)} (items : List α) (V : α → Value → Prop) (G : α → Value → Prop)
    (hP : ∀ i v, i < items.length → P i v → ∃ a, items[i]? = some a ∧ V a v)
    (turn : ∀ a v I oI C oC D m₂ ys h tk (E' : Value → Shared → Prop), a ∈ items → V a v → LCg.NsObj oC m₂ → m₂ x = some v → Fr h₀ L h m → News h₀ L h ((I, oI) :: (C, oC) :: (D, LCg.lst ys) :: news) → LCg.Off3 I C D news → ((@Ne Nat I C) ∧ (@Ne Nat I D) ∧ (@Ne Nat C D)) →
      wpAny (model prog w) A (eval elt (compEnvC scope cl C env)) (LCg.CompEnd h₀ L m { s with heap := h, toks := tk } I oI C oC D (LCg.lst ys) S (fun y news' => news' = news ∧ G a y)) E' { s with heap := h, toks := tk })
    (fin : ∀ ys, Paired G items ys → Fin ys news) : LCg.CompRest prog w A h₀ L m env elt x scope cl s S P Fin items.length 0 [] news := by
  have key : ∀ (j i : Nat) (ys : List Value), i + j = items.length → Paired G (items.take i) ys → LCg.CompRest prog w A h₀ L m env elt x scope cl s S P Fin j i ys news := by
    intro j
    induction j with
    | zero =>
      intro i ys hi hy
      have e : i = items.length := by omega
      subst e
      rw [List.take_length] at hy
      exact LCg.CompRest.zero (fin ys hy)
    | succ j ih =>
      intro i ys hi hy
      refine LCg.CompRest.succ ?_
      intro v I oI C oC D m₂ h tk E' hv hC hx F N off ne
      obtain ⟨a, ha, hVa⟩ := hP i v (by omega) hv
      refine wpAny_mono (turn a v I oI C oC D m₂ ys h tk E' (List.mem_of_getElem? ha) hVa hC hx F N off ne) (fun y s₂ hq => ?_) fun _ _ e => e
      obtain ⟨h', tk', nw, e, F', N', off', hS, hn, hG⟩ := hq
      rw [hn] at N' off' hS
      refine ⟨h', tk', news, e, F', N', off', hS, ?_⟩
      refine ih (i + 1) _ (by omega) ?_
      rw [List.take_add_one, ha]
      simpa using Paired.snoc hy hG
  exact key items.length 0 [] (by omega) (by rw [List.take_zero]; exact .nil)
end
end Mine
end
theorem Mine.walk_off_D2 : True := by
  w_top off
  exact True.intro
section
local macro_rules | `(tactic| walk_at $s:str) => `(tactic| k_extra $s)
local macro_rules | `(tactic| ke_room) => `(tactic| ktr_units)
section
open PySem PySem.W PyProof.Rows
set_option Elab.async false
set_option maxRecDepth 100000
set_option maxHeartbeats 8000000
namespace Mine

noncomputable abbrev tupO (vs : List Value) : Obj := { cls := .type "tuple", data := .seq vs.toArray }
theorem tup_ret {h₀ : Heap} {L : Addr} {m : Str → Option Value} {news : List (Addr × Obj)} {s : Shared} {Q : Value → Shared → Prop} {q r q' r' : Int} {a : Addr} {t1 t2 : Tok} {h' : Heap} {tk' : Nat} {new : List (Addr × Obj)}
  (hret : ∀ a tk1 tk2 h' tk', Fr h₀ L h' m → News h₀ L h' ((a, ({ cls := .type "tuple", data := .seq #[.int q tk1, .int r tk2] } : Obj)) :: news) → (∀ p ∈ news, p.1 < a) → Q (.ref a) { s with heap := h', toks := tk' })
  (F : Fr h₀ L h' m) (N : News h₀ L h' ((a, ({ cls := .type "tuple", data := .seq #[.int q' t1, .int r' t2] } : Obj)) :: new)) (hs : ∀ p ∈ news, p ∈ new) (hl : ∀ p ∈ news, p.1 < a) (e1 : q' = q) (e2 : r' = r) :
  Q (.ref a) { s with heap := h', toks := tk' } := by
  subst e1; subst e2
  refine hret a t1 t2 h' tk' F (fun p hp => ?_) hl
  rcases List.mem_cons.mp hp with rfl | hp
  · exact N _ (.head _)
  · exact N _ (.tail _ (hs p hp))
theorem c_div2 {w : World} {p : Program} {loose : List Str} {mean : ExcName → Option Value} {mg mb : Str → Option Value}
  {dp un : Nat} {gd : Option (List Code)} {cn : Str} {cs : Scope} {a : Addr} {ccd : Value} {cl : List (Str × Addr)} {outer : List Env} {A₀ : Around} {base h₀ : Heap} {L : Addr} {m : Str → Option Value} {news : List (Addr × Obj)} {s : Shared} {Q E : Value → Shared → Prop}
  (B : Below A₀ base outer h₀) (F : Fr h₀ L s.heap m) (X : (hd.heap_39 w.params).In h₀) (N : News h₀ L s.heap news) (T : Top p loose mean mg mb h₀) (hk : cs.kind = .function)
  (hdp : dp + 10 < recursionLimit) (hu : un + 1000 < cLine)
  {x y n : Int} {t1 t2 t3 : Tok} (hx : 0 ≤ x) (hxx : x < 2 ^ 64) (hy : 0 < y) (hy2 : y < 1073741824) (hn : 0 ≤ n)
  (hret : ∀ a tk1 tk2 h' tk', Fr h₀ L h' m → News h₀ L h' ((a, ({ cls := .type "tuple", data := .seq #[.int (x / y) tk1, .int (x % y) tk2] } : Obj)) :: news) → (∀ p ∈ news, p.1 < a) → Q (.ref a) { s with heap := h', toks := tk' }) :
  wpAny (model PySem.Challenge.rw_xi0006_01.row.prog w) (ktrTop dp un gd cn cs L a ccd cl outer) (call (.ref 38) [.int x t1, .int y t2, .int n t3]) Q E s := by
  have hib := intBits_le x 64 hx (by omega)
  k_with_none
  revert X; k_fill; intro X
  refine wpAny_call ?_
  k_dflt cell_enter
  k_steps
  exact tup_ret hret (by assumption) (by assumption) (fun _ h => h) (fun p hp => Heap.lt_size ((by assumption : News _ _ _ news) p hp).1) (Int.fdiv_eq_ediv_of_nonneg _ (by omega)) (Int.fmod_eq_emod_of_nonneg _ (by omega))

theorem lk_bind2 {h₀ h : Heap} {L : Addr} {m₁ m₀ : Str → Option Value} {x y : Str} {v u : Value} (F : Fr h₀ L h m₁) (hx : m₁ x = some v) (hy : m₁ y = some u) (hr : ∀ z, z ≠ x → z ≠ y → m₁ z = m₀ z) :
    Fr h₀ L h (fun z => if z = x then some v else if z = y then some u else m₀ z) := by
  have e : (fun z => if z = x then some v else if z = y then some u else m₀ z) = m₁ := by
    funext z
    by_cases h1 : z = x
    · subst h1; simp [hx]
    · by_cases h2 : z = y
      · subst h2; simp [h1, hy]
      · simp [h1, h2, hr z h1 h2]
  rw [e]; exact F
theorem c_div3 {w : World} {p : Program} {loose : List Str} {mean : ExcName → Option Value} {mg mb : Str → Option Value}
  {dp un : Nat} {gd : Option (List Code)} {cn : Str} {cs : Scope} {a : Addr} {ccd : Value} {cl : List (Str × Addr)} {outer : List Env} {A₀ : Around} {base h₀ : Heap} {L : Addr} {m : Str → Option Value} {news : List (Addr × Obj)} {s : Shared} {Q E : Value → Shared → Prop}
  (B : Below A₀ base outer h₀) (F : Fr h₀ L s.heap m) (X : (hd.heap_39 w.params).In h₀) (N : News h₀ L s.heap news) (T : Top p loose mean mg mb h₀) (hk : cs.kind = .function)
  (hdp : dp + 12 < recursionLimit) (hu : un + 1100 < cLine)
  {a12 a3 b b1 b2 n : Int} {t1 t2 t3 t4 t5 t6 : Tok} (h1 : 1 ≤ n) (h2 : n ≤ 24) (h3 : 0 ≤ a12) (h4 : 0 ≤ a3) (h5 : 0 < b1) (h6 : 0 ≤ b2) (h7 : a12 < 2 ^ 50) (h8 : a3 < 2 ^ n.toNat) (h9 : b1 < 2 ^ 24) (h10 : b2 < 2 ^ n.toNat) (hb : b = b1 * 2 ^ n.toNat + b2) (hlt : a12 < b)
  (hret : ∀ a tk1 tk2 h' tk', Fr h₀ L h' m → News h₀ L h' ((a, ({ cls := .type "tuple", data := .seq #[.int ((a12 * 2 ^ n.toNat + a3) / b) tk1, .int ((a12 * 2 ^ n.toNat + a3) % b) tk2] } : Obj)) :: news) → (∀ p ∈ news, p.1 < a) → Q (.ref a) { s with heap := h', toks := tk' }) :
  wpAny (model PySem.Challenge.rw_xi0006_01.row.prog w) (ktrTop dp un gd cn cs L a ccd cl outer) (call (.ref 45) [.int a12 t1, .int a3 t2, .int b t3, .int b1 t4, .int b2 t5, .int n t6]) Q E s := by
  have hP : (2 : Int) ^ n.toNat ≤ 2 ^ 24 := by
    have : ((2 ^ n.toNat : Nat) : Int) ≤ ((2 ^ 24 : Nat) : Int) := Int.ofNat_le.mpr (Nat.pow_le_pow_right (by decide) (by omega))
    simpa using this
  have h8' : a3 < 2 ^ 24 := by omega
  have h10' : b2 < 2 ^ 24 := by omega
  k_with_none
  (k_with "call ref" => (k_here; (with_reducible show wpAny _ _ (call (Value.ref 38) _) _ _ _); k_dflt (refine' c_div2 ?k1 ?k2 ?k3 ?k4 ?k5 ?kK ?kd ?ku ?p0 ?p1 ?p2 ?p3 ?p4 ?_; (case k1 => k_asm); (case k2 => k_asm); (case k3 => k_asm); (case k4 => k_asm); (case k5 => k_asm); (case kK => first | exact rfl | assumption); (case kd => ktr_room); (case ku => ktr_units); (case p0 => (first | assumption | omega)); (case p1 => (first | assumption | omega)); (case p2 => (first | assumption | omega)); (case p3 => (first | assumption | omega)); (case p4 => (first | assumption | omega)); (intro a9 t9 t9' h9 tk9 F9 N9 l9; (try k_lt l9); (try k_sweep)); (try dsimp only))))
  revert X; k_fill; intro X
  refine wpAny_call ?_
  k_dflt cell_enter
  (k_with "exec While Compare cons nil" => refine Stop.mk ?_)
  k_steps
  all_goals (
    refine Stop.out ?_
    (with_reducible rename Fr _ _ _ _ => kF)
    (with_reducible rename News _ _ _ _ => kN)
    refine' While_n (σ := Int × Int × Tok × Tok) (fun c => [(Str.ofString "q", .int c.1 c.2.2.1), (Str.ofString "r", .int c.2.1 c.2.2.2)]) [] (fun c => c.1 * b + c.2.1 = a12 * 2 ^ n.toNat + a3 ∧ c.2.1 < b ∧ -(2 ^ 80) < c.2.1) (fun c => (-c.2.1).toNat) (_, _, _, _) kF kN ?hps ?hP ?turn ?hE
    case hE => passes_own
    case hps => (dsimp only; refine lkupc ?_ (lkup1 ?_) <;> rfl)
    case turn =>
      rintro ⟨q, r, tq, tr⟩ u h tk ⟨hV, hr, hr2⟩ Fw Nw
      dsimp only at Fw hV hr hr2
      k_steps
      · refine' UEnd.intro (by assumption) (by assumption) (q - 1, r + b, _, _) (fun _ h => h) ?g1 ?g2 ?g3
        case g1 => (dsimp only; refine lkupc ?_ (lkup1 ?_) <;> rfl)
        case g2 =>
          intro z h1 h2
          rw [lkn_cons, lkn_cons] at h1
          simp [h1.1, h1.2.1, ub, List.lookup_cons, beq_false_of_ne]
        case g3 =>
          dsimp only
          refine ⟨⟨?_, ?_, ?_⟩, ?_⟩
          · rw [← hV]; grind
          · omega
          · omega
          · omega
      · have hl := d3_last q r b _ hV (by omega) hr
        exact tup_ret hret (by assumption) (by assumption) (fun _ h => .tail _ h) (ktn_ltOf (by first | assumption | exact (by assumption : _ ∧ AllLt _ _).2)) hl.1 hl.2
    case hP =>
      dsimp only
      have hnn : (0 : Int) < 2 ^ n.toNat := Int.pow_pos (by decide)
      have hfd : a12.fdiv (2 ^ n.toNat) = a12 / 2 ^ n.toNat := Int.fdiv_eq_ediv_of_nonneg _ (by omega)
      first
      | (have he : a12 / 2 ^ n.toNat = b1 := by rw [← hfd]; assumption
         have hr0 : 0 ≤ a12 - b1 * 2 ^ n.toNat + b1 := by
           have := Int.ediv_mul_le a12 (show (2 : Int) ^ n.toNat ≠ 0 by omega)
           rw [he] at this; omega
         rw [bitOr_shift _ _ _ hr0 h4 h8]
         have k := d3_first a12 a3 b1 b2 (2 ^ n.toNat) b hnn h4 h8 h6 h10 hb hlt he hr0
         refine ⟨k.1, k.2, ?_⟩
         have m1 : 0 ≤ (a12 - b1 * 2 ^ n.toNat + b1) * 2 ^ n.toNat := Int.mul_nonneg hr0 (by omega)
         have m2 : (1 * 2 ^ n.toNat - 1) * b2 ≤ 2 ^ 24 * 2 ^ 24 := Int.mul_le_mul (by omega) (by omega) h6 (by decide)
         omega)
      | (have hm := Int.emod_nonneg a12 (show b1 ≠ 0 by omega)
         rw [bitOr_shift _ _ _ hm h4 h8]
         have k := d3_second a12 a3 b1 b2 (2 ^ n.toNat) b hnn h4 h8 h5 h3 h6 hb
         refine ⟨k.1, k.2, ?_⟩
         have m1 : 0 ≤ (a12 % b1) * 2 ^ n.toNat := Int.mul_nonneg hm (by omega)
         have hq : a12 / b1 ≤ 2 ^ 50 := by
           have : a12 / b1 ≤ a12 := Int.ediv_le_self _ h3
           omega
         have m2 : (a12 / b1) * b2 ≤ 2 ^ 50 * 2 ^ 24 := Int.mul_le_mul hq (by omega) h6 (by decide)
         omega))
theorem c_div3v {w : World} {p : Program} {loose : List Str} {mean : ExcName → Option Value} {mg mb : Str → Option Value}
  {dp un : Nat} {gd : Option (List Code)} {cn : Str} {cs : Scope} {a : Addr} {ccd : Value} {cl : List (Str × Addr)} {outer : List Env} {A₀ : Around} {base h₀ : Heap} {L : Addr} {m : Str → Option Value} {news : List (Addr × Obj)} {s : Shared} {Q E : Value → Shared → Prop}
  (B : Below A₀ base outer h₀) (F : Fr h₀ L s.heap m) (X : (hd.heap_39 w.params).In h₀) (N : News h₀ L s.heap news) (T : Top p loose mean mg mb h₀) (hk : cs.kind = .function)
  (hdp : dp + 12 < recursionLimit) (hu : un + 1100 < cLine)
  (q r : Int) {a12 a3 b b1 b2 n : Int} {t1 t2 t3 t4 t5 t6 : Tok} (h1 : 1 ≤ n) (h2 : n ≤ 24) (h3 : 0 ≤ a12) (h4 : 0 ≤ a3) (h5 : 0 < b1) (h6 : 0 ≤ b2) (h7 : a12 < 2 ^ 50) (h8 : a3 < 2 ^ n.toNat) (h9 : b1 < 2 ^ 24) (h10 : b2 < 2 ^ n.toNat) (hb : b = b1 * 2 ^ n.toNat + b2) (hlt : a12 < b) (hv : q * b + r = a12 * 2 ^ n.toNat + a3) (hr : 0 ≤ r) (hr2 : r < b)
  (hret : ∀ a tk1 tk2 h' tk', Fr h₀ L h' m → News h₀ L h' ((a, ({ cls := .type "tuple", data := .seq #[.int q tk1, .int r tk2] } : Obj)) :: news) → (∀ p ∈ news, p.1 < a) → Q (.ref a) { s with heap := h', toks := tk' }) :
  wpAny (model PySem.Challenge.rw_xi0006_01.row.prog w) (ktrTop dp un gd cn cs L a ccd cl outer) (call (.ref 45) [.int a12 t1, .int a3 t2, .int b t3, .int b1 t4, .int b2 t5, .int n t6]) Q E s := by
  have hl := d3_last q r b _ hv hr hr2
  refine c_div3 B F X N T hk hdp hu h1 h2 h3 h4 h5 h6 h7 h8 h9 h10 hb hlt ?_
  rw [← hl.1, ← hl.2]
  exact hret
end Mine
end
theorem Mine.walk_off_BK : True := by
  w_top off
  exact True.intro
section
open PySem PySem.W PyProof.Rows
set_option Elab.async false
set_option maxRecDepth 100000
set_option maxHeartbeats 8000000
namespace Mine
@[elab_as_elim] theorem of_3_19 {P : Int → Prop} {x : Int} (h1 : 3 ≤ x) (h2 : x ≤ 19) (h : ∀ k : Nat, k < 17 → P ((k : Int) + 3)) : P x := by
  have e : ((x - 3).toNat : Int) + 3 = x := by rw [Int.toNat_of_nonneg (by omega)]; omega
  rw [← e]
  exact h _ (by omega)
theorem bool_ret {h₀ : Heap} {L : Addr} {m : Str → Option Value} {news : List (Addr × Obj)} {s : Shared} {Q : Value → Shared → Prop} {b b' : Bool} {h' : Heap} {tk' : Nat} {nw : List (Addr × Obj)}
  (hret : ∀ h' tk', Fr h₀ L h' m → News h₀ L h' news → Q (.bool b) { s with heap := h', toks := tk' })
  (F : Fr h₀ L h' m) (N : News h₀ L h' nw) (hs : ∀ p ∈ news, p ∈ nw) (e : b' = b) : Q (.bool b') { s with heap := h', toks := tk' } := by
  subst e
  exact hret h' tk' F fun p hp => N p (hs p hp)
theorem c_back {w : World} {p : Program} {loose : List Str} {mean : ExcName → Option Value} {mg mb : Str → Option Value}
  {dp un : Nat} {gd : Option (List Code)} {cn : Str} {cs : Scope} {a : Addr} {ccd : Value} {cl : List (Str × Addr)} {outer : List Env} {A₀ : Around} {base h₀ : Heap} {L : Addr} {m : Str → Option Value} {news : List (Addr × Obj)} {s : Shared} {Q E : Value → Shared → Prop}
  (B : Below A₀ base outer h₀) (F : Fr h₀ L s.heap m) (X : (hd.heap_39 w.params).In h₀) (N : News h₀ L s.heap news) (T : Top p loose mean mg mb h₀) (hk : cs.kind = .function)
  (hdp : dp + 14 < recursionLimit) (hu : un + 1200 < cLine)
  {x : Int} {t1 : Tok} (h1 : 3 ≤ x) (h2 : x ≤ 19)
  (hret : ∀ h' tk', Fr h₀ L h' m → News h₀ L h' news → Q (.bool true) { s with heap := h', toks := tk' }) :
  wpAny (model PySem.Challenge.rw_xi0006_01.row.prog w) (ktrTop dp un gd cn cs L a ccd cl outer) (call (.ref 151) [.int x t1]) Q E s := by
  k_with_none
  revert X; k_fill; intro X
  refine wpAny_call ?_
  k_dflt cell_enter
  (k_with "call ref" => refine Stop.mk ?_)
  k_steps
  refine Stop.out ?_
  k_dflt (refine' c_div3 ?k1 ?k2 ?k3 ?k4 ?k5 ?kK ?kd ?ku ?p1 ?p2 ?p3 ?p4 ?p5 ?p6 ?p7 ?p8 ?p9 ?p10 ?pb ?plt ?_)
  case k1 => k_asm
  case k2 => k_asm
  case k3 => k_asm
  case k4 => k_asm
  case k5 => k_asm
  case kK => first | exact rfl | assumption
  case kd => ktr_room
  case ku => ktr_units
  case p1 => omega
  case p2 => omega
  case p3 => (clear hret; refine of_3_19 h1 h2 ?_; decide +kernel)
  case p4 => (clear hret; refine of_3_19 h1 h2 ?_; decide +kernel)
  case p5 => (clear hret; refine of_3_19 h1 h2 ?_; decide +kernel)
  case p6 => (clear hret; refine of_3_19 h1 h2 ?_; decide +kernel)
  case p7 => (clear hret; refine of_3_19 h1 h2 ?_; decide +kernel)
  case p8 => (clear hret; refine of_3_19 h1 h2 ?_; decide +kernel)
  case p9 => (clear hret; refine of_3_19 h1 h2 ?_; decide +kernel)
  case p10 => (clear hret; refine of_3_19 h1 h2 ?_; decide +kernel)
  case pb => (clear hret; refine of_3_19 h1 h2 ?_; decide +kernel)
  case plt => (clear hret; refine of_3_19 h1 h2 ?_; decide +kernel)
  intro a9 t9 t9' h9 tk9 F9 N9 l9
  (try k_lt l9); (try k_sweep); (try dsimp only)
  k_steps
  refine bool_ret hret (by assumption) (by assumption) (fun _ h => .tail _ (.tail _ h)) ?_
  (clear hret; refine of_3_19 h1 h2 ?_; decide +kernel)
end Mine
end
theorem Mine.walk_off_RN : True := by
  w_top off
  exact True.intro
section
open PySem PySem.W PyProof.Rows
set_option Elab.async false
set_option maxRecDepth 100000
set_option maxHeartbeats 8000000
namespace Mine

section
variable {prog : Program} {w : World} {A : Around} {E : Value → Shared → Prop} {s : Shared} {h₀ : Heap} {L : Addr} {m : Str → Option Value} {news : List (Addr × Obj)}
theorem max_gen {a b : Int} {t u : Tok} {Q : Value → Shared → Prop} (hh : A.handled = none) (F : Fr h₀ L s.heap m) (N : News h₀ L s.heap news)
    (h : ∀ z tz h' tk, a ≤ z → b ≤ z → (z = a ∨ z = b) → Fr h₀ L h' m → News h₀ L h' news → Q (.int z tz) { s with heap := h', toks := tk }) :
    wpAny (model prog w) A (call (.builtin "max") [.int a t, .int b u]) Q E s := max_two_N hh F N fun h' tk F' N' => by
  by_cases c : b > a
  · simp only [if_pos c]; exact h b u h' tk (by omega) (by omega) (.inr rfl) F' N'
  · simp only [if_neg c]; exact h a t h' tk (by omega) (by omega) (.inl rfl) F' N'
theorem rep1 (v : Value) : ∀ q : Nat, List.foldl (fun x1 x2 => x1 ++ x2) #[] (List.replicate q #[v]) = (List.replicate q v).toArray := by
  have key : ∀ (q : Nat) (acc : Array Value), List.foldl (fun x1 x2 => x1 ++ x2) acc (List.replicate q #[v]) = acc ++ (List.replicate q v).toArray := by
    intro q
    induction q with
    | zero => intro acc; simp
    | succ q ih => intro acc; rw [List.replicate_succ, List.foldl_cons, ih, List.replicate_succ]; apply Array.ext'; simp
  intro q
  rw [key]; simp
theorem ints_rep (x : Int) (t : Tok) : ∀ q : Nat, IntsAre (List.replicate q (.int x t)) (List.replicate q x)
  | 0 => .nil
  | q + 1 => .cons x t (ints_rep x t q)
theorem mul1 {l : Addr} {v : Value} {k : Nat} {x : Int} {u : Tok} {Q : Value → Shared → Prop} (F : Fr h₀ L s.heap m) (N : News h₀ L s.heap news) (hm : (l, listOf #[v] k) ∈ news) (h0 : 0 ≤ x) (h1 : x < 2 ^ 20)
    (h : ∀ D h', Fr h₀ L h' m → News h₀ L h' ((D, listOf (List.replicate x.toNat v).toArray 0) :: news) → (∀ p ∈ news, p.1 < D) → Q (.ref D) { s with heap := h' }) :
    wpAny (model prog w) A (binaryOp .Mult (.ref l) (.int x u)) Q E s := by
  refine mul_list F N (N _ hm).1 (by omega) (by omega) (by show 1 * x.toNat ≤ 2 ^ 24; omega) fun h' F' N' => h _ h' F' ?_ fun p hp => Heap.lt_size (N p hp).1
  have e : (if (#[v] : Array Value).isEmpty = true then 0 else x.toNat) = x.toNat := by simp
  rw [e, rep1] at N'
  exact N'
theorem cat2 {a b : Addr} {vs ws : List Value} {k j : Nat} {ns ms : List Int} {Q : Value → Shared → Prop} (F : Fr h₀ L s.heap m) (N : News h₀ L s.heap news) (ha : (a, listOf vs.toArray k) ∈ news) (hb : (b, listOf ws.toArray j) ∈ news) (hi : IntsAre vs ns) (hj : IntsAre ws ms) (hz : vs.length + ws.length ≤ 2 ^ 24)
    (h : ∀ D h', Fr h₀ L h' m → News h₀ L h' ((D, listOf (vs ++ ws).toArray 0) :: news) → (∀ p ∈ news, p.1 < D) → IntsAre (vs ++ ws) (ns ++ ms) → Q (.ref D) { s with heap := h' }) :
    wpAny (model prog w) A (binaryOp .Add (.ref a) (.ref b)) Q E s := by
  refine add_lists_ints F N ⟨_, (N _ ha).1, rfl, k, rfl⟩ ⟨_, (N _ hb).1, rfl, j, rfl⟩ hi hj (fun h' F' N' I' => h _ h' F' N' (fun p hp => Heap.lt_size (N p hp).1) I') (hsz := by rw [← hi.length, ← hj.length]; exact hz)
end
theorem c_run {w : World} {p : Program} {loose : List Str} {mean : ExcName → Option Value} {mg mb : Str → Option Value}
  {dp un : Nat} {gd : Option (List Code)} {cn : Str} {cs : Scope} {a : Addr} {ccd : Value} {cl : List (Str × Addr)} {outer : List Env} {A₀ : Around} {base h₀ : Heap} {L : Addr} {m : Str → Option Value} {news : List (Addr × Obj)} {s : Shared} {Q E : Value → Shared → Prop}
  (B : Below A₀ base outer h₀) (F : Fr h₀ L s.heap m) (X : (hd.heap_39 w.params).In h₀) (N : News h₀ L s.heap news) (T : Top p loose mean mg mb h₀) (hk : cs.kind = .function)
  (hdp : dp + 16 < recursionLimit) (hu : un + 1300 < cLine)
  {x y : Int} {t1 t2 : Tok} (l : List Int) (g : Int) (h1 : 0 ≤ x) (h2 : x < 2 ^ 20) (h3 : 0 ≤ y) (h4 : y < 2 ^ 20) (he : euc 12 x y = some (l, g))
  (hret : ∀ b c vs k t h' tk', Fr h₀ L h' m → IntsAre vs l → News h₀ L h' ((b, ({ cls := .type "tuple", data := .seq #[.ref c, .int g t] } : Obj)) :: (c, listOf vs.toArray k) :: news) → (∀ p ∈ news, p.1 < b) → (∀ p ∈ news, p.1 < c) → c < b → Q (.ref b) { s with heap := h', toks := tk' }) :
  wpAny (model PySem.Challenge.rw_xi0006_01.row.prog w) (ktrTop dp un gd cn cs L a ccd cl outer) (call (.ref 158) [.int x t1, .int y t2]) Q E s := by
  k_with_none
  revert X; k_fill; intro X
  refine wpAny_call ?_
  k_dflt cell_enter
  (k_with "pyIter ref" => refine Stop.mk ?_)
  (k_with "call ref" => refine Stop.mk ?_)
  (k_with "call builtin:max" => ((refine' max_gen rfl (by assumption) (by assumption) ?_); (intro z' tz' h' tk' hz1' hz2' hz3' F' N'); (obtain ⟨f1, f2, f3, f4, f5, f6, f7⟩ := run_facts ov un' z' b1 b2 (by omega) b4 hz1' hz2' hz3'); (try k_sweep)))
  (k_with "binaryOp Mult ref int" => k_dflt ((refine' mul1 (by assumption) (by assumption) ?a ?z0 ?z1 ?_); (case a => k_mem); (case z0 => assumption); (case z1 => assumption); (intro D' h' F' N' l1); (try k_lt l1); (try k_sweep)))
  (k_with "binaryOp Add ref ref" => k_dflt ((refine' cat2 (by assumption) (by assumption) ?a ?b ?i ?j ?z ?_); (case a => k_mem); (case b => k_mem); (case i => assumption); (case j => first | exact ints_rep _ _ _ | exact IntsAre.cons _ _ .nil); (case z => (simp only [List.length_replicate, List.length_cons, List.length_nil]; omega)); (intro D' h' F' N' l1 I'); (try k_lt l1); (try k_sweep)))
  k_steps
  refine Stop.out ?_
  (with_reducible rename Fr _ _ _ _ => kF)
  (with_reducible rename News _ _ _ _ => kN)
  (with_reducible rename IsRange _ _ _ _ _ _ _ _ => kR)
  refine iter_range_u (n := 12) (σ := Addr × List Value × Nat × Int × Int × Tok × Tok) (fun c => (c.1, listOf c.2.1.toArray c.2.2.1) :: news) (fun c => [(Str.ofString "row", .ref c.1), (Str.ofString "over", .int c.2.2.2.1 c.2.2.2.2.2.1), (Str.ofString "under", .int c.2.2.2.2.1 c.2.2.2.2.2.2)])
    [Str.ofString "step", Str.ofString "half", Str.ofString "up", Str.ofString "ones", Str.ofString "divisor", Str.ofString "quotient", Str.ofString "left"]
    (fun k c => ∃ ns l', IntsAre c.2.1 ns ∧ euc (12 - k) c.2.2.2.1 c.2.2.2.2.1 = some (l', g) ∧ ns ++ l' = l ∧ 0 ≤ c.2.2.2.1 ∧ c.2.2.2.1 < 2 ^ 20 ∧ 0 ≤ c.2.2.2.2.1 ∧ c.2.2.2.2.1 < 2 ^ 20 ∧ c.2.1.length ≤ k * 2 ^ 20 ∧ ∀ p ∈ news, p.1 < c.1)
    (_, [], 0, x, y, t1, t2) rfl kR (by decide) (by rfl) kF kN ?_ ?_ ?_ ?_
  · dsimp only
    refine lkupc ?_ (lkupc ?_ (lkup1 ?_)) <;> rfl
  · refine ⟨[], l, .nil, he, rfl, h1, h2, h3, h4, by simp, ?_⟩
    assumption
  · rintro I k t ⟨ra, vs, ep, ov, un', to', tu'⟩ u h tk hI hk12 ⟨ns, l', hi, heu, hl, b1, b2, b3, b4, hlen, hra⟩ Fw Nw hoff
    dsimp only at Fw Nw hoff hi heu hl b1 b2 b3 b4 hlen hra
    k_steps
    · have he := euc_end hk12 heu (by assumption)
      dsimp only [FPost]
      k_steps
      have hl2 : l = ns ++ [0] := by rw [← hl, he.1]
      rw [he.2, hl2] at hret
      k_dflt (refine' hret _ _ _ _ _ _ _ ?q1 (by assumption) ?q2 ?q3 ?q4 ?q5)
      case q1 => assumption
      case q2 => (refine' cb_drop ?n1 ?n2; (case n1 => assumption); (case n2 => ((refine sub_cons (by with_reducible_and_instances k_mem) ?_); (refine sub_cons (by with_reducible_and_instances k_mem) ?_); (repeat' (first | with_reducible_and_instances apply sub_refl | refine sub_skip ?_)))))
      case q3 => (first | with_reducible_and_instances assumption | (refine ktn_ltOf ?_; with_reducible_and_instances (first | assumption | exact And.right (by assumption) | exact And.right (And.right (by assumption)) | exact And.right (And.right (And.right (by assumption))) | exact And.right (And.right (And.right (And.right (by assumption)))) | exact And.right (And.right (And.right (And.right (And.right (by assumption))))) | exact And.right (And.right (And.right (And.right (And.right (And.right (by assumption)))))) | exact And.right (And.right (And.right (And.right (And.right (And.right (And.right (by assumption))))))) | exact And.right (And.right (And.right (And.right (And.right (And.right (And.right (And.right (by assumption)))))))) | exact And.right (And.right (And.right (And.right (And.right (And.right (And.right (And.right (And.right (by assumption))))))))) | exact And.right (And.right (And.right (And.right (And.right (And.right (And.right (And.right (And.right (And.right (by assumption)))))))))) | exact And.right (And.right (And.right (And.right (And.right (And.right (And.right (And.right (And.right (And.right (And.right (by assumption))))))))))) | exact And.right (And.right (And.right (And.right (And.right (And.right (And.right (And.right (And.right (And.right (And.right (And.right (by assumption)))))))))))) | exact And.right (And.right (And.right (And.right (And.right (And.right (And.right (And.right (And.right (And.right (And.right (And.right (And.right (by assumption))))))))))))))))
      case q4 => (first | with_reducible_and_instances assumption | (refine ktn_ltOf ?_; with_reducible_and_instances (first | assumption | exact And.right (by assumption) | exact And.right (And.right (by assumption)) | exact And.right (And.right (And.right (by assumption))) | exact And.right (And.right (And.right (And.right (by assumption)))) | exact And.right (And.right (And.right (And.right (And.right (by assumption))))) | exact And.right (And.right (And.right (And.right (And.right (And.right (by assumption)))))) | exact And.right (And.right (And.right (And.right (And.right (And.right (And.right (by assumption))))))) | exact And.right (And.right (And.right (And.right (And.right (And.right (And.right (And.right (by assumption)))))))) | exact And.right (And.right (And.right (And.right (And.right (And.right (And.right (And.right (And.right (by assumption))))))))) | exact And.right (And.right (And.right (And.right (And.right (And.right (And.right (And.right (And.right (And.right (by assumption)))))))))) | exact And.right (And.right (And.right (And.right (And.right (And.right (And.right (And.right (And.right (And.right (And.right (by assumption))))))))))) | exact And.right (And.right (And.right (And.right (And.right (And.right (And.right (And.right (And.right (And.right (And.right (And.right (by assumption)))))))))))) | exact And.right (And.right (And.right (And.right (And.right (And.right (And.right (And.right (And.right (And.right (And.right (And.right (And.right (by assumption))))))))))))))))
      case q5 => (refine ltN ?_; omega)
    · refine Stop.out ?_
      have hc1 := run_c1 _ _ z'.toNat rfl (by omega) f5 f6
      obtain ⟨g1, g2, g3, g4, g5, g6, g7, g8, g9⟩ := hc1
      k_dflt (refine' c_div3v ?k1 ?k2 ?k3 ?k4 ?k5 ?kK ?kd ?ku _ _ f1 (by omega) g1 g2 g3 g4 g5 (by omega) g6 g7 g8 (by omega) g9 g1 (by omega) ?_)
      case k1 => k_asm
      case k2 => k_asm
      case k3 => k_asm
      case k4 => k_asm
      case k5 => k_asm
      case kK => first | exact rfl | assumption
      case kd => ktr_room
      case ku => ktr_units
      intro a9 t9 t9' h9 tk9 F9 N9 l9
      (try k_lt l9); (try k_sweep); (try dsimp only)
      k_steps
      refine Stop.out ?_
      have hc2 := run_c2 ov un' (2 ^ (2 * z' - (Builtin.Int.intBits un' : Int)).toNat) (2 ^ z'.toNat) z'.toNat rfl (by omega) b1 b2 (by omega) (Int.pow_pos (by decide)) f6 f7
      obtain ⟨e1, e2, e3, e4, e5, e6, e7, e8, e9, e10, e11, e12, e13⟩ := hc2
      k_dflt (refine' c_div3v ?k1 ?k2 ?k3 ?k4 ?k5 ?kK ?kd ?ku _ _ f1 (by omega) e1 e2 g3 g4 e3 e4 g6 g7 g8 e5 e6 e7 e8 ?_)
      case k1 => k_asm
      case k2 => k_asm
      case k3 => k_asm
      case k4 => k_asm
      case k5 => k_asm
      case kK => first | exact rfl | assumption
      case kd => ktr_room
      case ku => ktr_units
      intro a8 t8 t8' h8 tk8 F8 N8 l8
      (try k_lt l8); (try k_sweep); (try dsimp only)
      k_steps
      obtain ⟨l'', heu', hl''⟩ := euc_step hk12 heu (by assumption)
      k_dflt (refine' FEnd.intro (by assumption) (by assumption) (_, vs ++ List.replicate (ov / un').toNat (.int un' tu'), 0, _, _, _, _) ?hI ?hl ?ho ?h1 ?h2 ?hP)
      case h1 => (dsimp only; refine lkupc ?_ (lkupc ?_ (lkup1 ?_)) <;> rfl)
      case hI => with_reducible_and_instances k_mem
      case hl => (dsimp only; ((refine sub_cons (by with_reducible_and_instances k_mem) ?_); (repeat' (first | with_reducible_and_instances apply sub_refl | refine sub_skip ?_))))
      case ho => (dsimp only; refine off_cons ?_ (off_lt (lt_tail hI)); refine neN ?_; omega)
      case h2 =>
        intro z k1 k2
        have k3 := k2
        rw [lkn_cons, lkn_cons, lkn_cons] at k1
        simp only [List.contains_cons, List.contains_nil, Bool.or_false, Bool.or_eq_false_iff, beq_eq_false_iff_ne, ne_eq] at k2
        simp [k1.1, k1.2.1, k1.2.2.1, k2, ub, List.lookup_cons, beq_false_of_ne, k3]
      case hP =>
        dsimp only
        rewrite [e9]
        refine ⟨_, l'', by assumption, heu', ?_, b3, b4, e12, e13, ?_, by (first | with_reducible_and_instances assumption | (refine ktn_ltOf ?_; with_reducible_and_instances (first | assumption | exact And.right (by assumption) | exact And.right (And.right (by assumption)) | exact And.right (And.right (And.right (by assumption))) | exact And.right (And.right (And.right (And.right (by assumption)))) | exact And.right (And.right (And.right (And.right (And.right (by assumption))))) | exact And.right (And.right (And.right (And.right (And.right (And.right (by assumption)))))) | exact And.right (And.right (And.right (And.right (And.right (And.right (And.right (by assumption))))))) | exact And.right (And.right (And.right (And.right (And.right (And.right (And.right (And.right (by assumption)))))))) | exact And.right (And.right (And.right (And.right (And.right (And.right (And.right (And.right (And.right (by assumption))))))))) | exact And.right (And.right (And.right (And.right (And.right (And.right (And.right (And.right (And.right (And.right (by assumption)))))))))) | exact And.right (And.right (And.right (And.right (And.right (And.right (And.right (And.right (And.right (And.right (And.right (by assumption))))))))))) | exact And.right (And.right (And.right (And.right (And.right (And.right (And.right (And.right (And.right (And.right (And.right (And.right (by assumption)))))))))))) | exact And.right (And.right (And.right (And.right (And.right (And.right (And.right (And.right (And.right (And.right (And.right (And.right (And.right (by assumption))))))))))))))))⟩
        · rw [← hl, hl'', List.append_assoc]
        · rw [List.length_append, List.length_replicate]; omega
  · rintro ⟨ra, vs, ep, ov, un', to', tu'⟩ u h tk ⟨ns, l', hi, heu, hl, _⟩ Fw Nw
    exact absurd heu (by simp [euc])
end Mine
end
theorem Mine.walk_off_AP : True := by
  w_top off
  exact True.intro
section
open PySem PySem.W PyProof.Rows
set_option Elab.async false
set_option maxRecDepth 100000
set_option maxHeartbeats 8000000
namespace Mine
theorem c_ap {w : World} {p : Program} {loose : List Str} {mean : ExcName → Option Value} {mg mb : Str → Option Value}
  {dp un : Nat} {gd : Option (List Code)} {cn : Str} {cs : Scope} {a : Addr} {ccd : Value} {cl : List (Str × Addr)} {outer : List Env} {A₀ : Around} {base h₀ : Heap} {L : Addr} {m : Str → Option Value} {news : List (Addr × Obj)} {s : Shared} {Q E : Value → Shared → Prop}
  (B : Below A₀ base outer h₀) (F : Fr h₀ L s.heap m) (X : (hd.heap_39 w.params).In h₀) (N : News h₀ L s.heap news) (T : Top p loose mean mg mb h₀) (hk : cs.kind = .function)
  (hdp : dp + 10 < recursionLimit) (hu : un + 1000 < cLine)
  {x : Int} {t1 : Tok} (h1 : x.natAbs < 2 ^ 110)
  (hret : ∀ t h' tk', Fr h₀ L h' m → News h₀ L h' news → Q (.bytes (apl x.natAbs).toArray t) { s with heap := h', toks := tk' }) :
  wpAny (model PySem.Challenge.rw_xi0006_01.row.prog w) (ktrTop dp un gd cn cs L a ccd cl outer) (call (.ref 108) [.int x t1]) Q E s := by
  k_with_none
  revert X; k_fill; intro X
  refine wpAny_call ?_
  k_dflt cell_enter
  (k_with "exec While" => refine Stop.mk ?_)
  (k_with "subscriptTail" => k_dflt ((refine' bslice (s := ⟨_, _, _, _, _⟩) #[UInt8.ofNat (65 + (n.fmod 16).toNat)] (by assumption) (by assumption) (IsPart.int _ _) (IsPart.int _ _) ?z ?r ?_); (case z => decide); (case r => exact ap_pick _ (Int.fmod_nonneg (by omega) (by decide)) (Int.fmod_lt_of_pos _ (by decide))); (intro h' t' k' F' N'); (try k_sweep)))
  (k_with "binaryOp Add bytes bytes" => k_dflt ((refine' badd (x := [_]) ?z ?_); (case z => (have hvl := ap_len hv hlen; show 1 + val.length ≤ _; omega)); (intro t' k')))
  k_steps
  refine Stop.out ?_
  (with_reducible rename Fr _ _ _ _ => kF)
  (with_reducible rename News _ _ _ _ => kN)
  refine' While_n (σ := Int × List UInt8 × Tok × Tok) (fun c => [(Str.ofString "num", .int c.1 c.2.2.1), (Str.ofString "val", .bytes c.2.1.toArray c.2.2.2)]) [Str.ofString "mod"] (fun c => 0 ≤ c.1 ∧ c.1 < 2 ^ 110 ∧ apl c.1.toNat ++ c.2.1 = apl x.natAbs ∧ x.natAbs < 2 ^ 110) (fun c => c.1.toNat) (_, [], _, _) kF kN ?hps ?hP ?turn ?hE
  case hE => passes_own
  case hps => (dsimp only; refine lkupc ?_ (lkup1 ?_) <;> rfl)
  case turn =>
    rintro ⟨n, val, tn, tv⟩ u h tk ⟨hn, hn2, hv, hlen⟩ Fw Nw
    dsimp only at Fw hn hn2 hv hlen
    k_steps
    · k_dflt (refine' UEnd.intro (by assumption) ?g0 (n.fdiv 16, UInt8.ofNat (65 + (n.fmod 16).toNat) :: val, _, _) (fun _ h => h) ?g1 ?g2 ?g3)
      case g0 => (refine' cb_drop ?n1 ?n2; (case n1 => assumption); (case n2 => ((repeat' (first | with_reducible_and_instances apply sub_refl | refine sub_skip ?_)))))
      case g1 => (dsimp only; refine lkupc ?_ (lkup1 ?_) <;> rfl)
      case g2 =>
        intro z k1 k2
        have k3 := k2
        rw [lkn_cons, lkn_cons] at k1
        simp only [List.contains_cons, List.contains_nil, Bool.or_false, beq_eq_false_iff_ne, ne_eq] at k2
        simp [k1.1, k1.2.1, k2, ub, List.lookup_cons, beq_false_of_ne]
      case g3 =>
        dsimp only
        have e1 : n.fdiv 16 = n / 16 := Int.fdiv_eq_ediv_of_nonneg _ (by decide)
        have e2 : n.fmod 16 = n % 16 := Int.fmod_eq_emod_of_nonneg _ (by decide)
        rewrite [e1, e2]
        exact ap_turn hn hn2 (by assumption) hv hlen
    · have e0 : n = 0 := by assumption
      rw [e0] at hv
      have e1 : val = apl x.natAbs := by rw [← hv]; show _ = apl 0 ++ val; rw [apl_zero]; rfl
      rw [e1]
      exact hret _ _ _ (by assumption) (by assumption)
  case hP =>
    dsimp only
    exact ap_start h1
end Mine
end
theorem Mine.walk_off_OC : True := by
  w_top off
  exact True.intro
section
open PySem PySem.W PyProof.Rows
set_option Elab.async false
set_option maxRecDepth 100000
set_option maxHeartbeats 8000000
namespace Mine
theorem paired_ints_of {f : Nat → Int} : ∀ {l : List Nat} {ys : List Value}, Paired (fun c y => ∃ u, y = Value.int (f c) u) l ys → IntsAre ys (l.map f) ∧ ys.length = l.length
  | [], _, .nil => ⟨.nil, rfl⟩
  | c :: l, _, .cons h r => by
    obtain ⟨u, rfl⟩ := h
    have ih := paired_ints_of r
    exact ⟨.cons _ u ih.1, by rw [List.length_cons, List.length_cons, ih.2]⟩
theorem oct_ret {h₀ : Heap} {L : Addr} {m : Str → Option Value} {news : List (Addr × Obj)} {s : Shared} {Q : Value → Shared → Prop} {r r' : List UInt8} {t : Tok} {h' : Heap} {tk' : Nat}
  (hret : ∀ t h' tk', Fr h₀ L h' m → News h₀ L h' news → Q (.bytes r.toArray t) { s with heap := h', toks := tk' })
  (F : Fr h₀ L h' m) (N : News h₀ L h' news) (e : r' = r) : Q (.bytes r'.toArray t) { s with heap := h', toks := tk' } := by
  subst e
  exact hret t h' tk' F N
theorem c_octets {w : World} {p : Program} {loose : List Str} {mean : ExcName → Option Value} {mg mb : Str → Option Value}
  {dp un : Nat} {gd : Option (List Code)} {cn : Str} {cs : Scope} {a : Addr} {ccd : Value} {cl : List (Str × Addr)} {outer : List Env} {A₀ : Around} {base h₀ : Heap} {L : Addr} {m : Str → Option Value} {news : List (Addr × Obj)} {s : Shared} {Q E : Value → Shared → Prop}
  (B : Below A₀ base outer h₀) (F : Fr h₀ L s.heap m) (X : (hd.heap_39 w.params).In h₀) (N : News h₀ L s.heap news) (T : Top p loose mean mg mb h₀) (hk : cs.kind = .function)
  (hdp : dp + 10 < recursionLimit) (hu : un + 1000 < cLine)
  {x : Str} {t1 : Tok} (h1 : ∀ c ∈ x.cps.toList, c < 256) (h2 : x.cps.size < 2 ^ 20)
  (hret : ∀ t h' tk', Fr h₀ L h' m → News h₀ L h' news → Q (.bytes (x.cps.toList.map (fun c => UInt8.ofNat c)).toArray t) { s with heap := h', toks := tk' }) :
  wpAny (model PySem.Challenge.rw_xi0006_01.row.prog w) (ktrTop dp un gd cn cs L a ccd cl outer) (call (.ref 127) [.str x t1]) Q E s := by
  k_with_none
  revert X; k_fill; intro X
  refine wpAny_call ?_
  k_dflt cell_enter
  (k_with "eval ListComp" => k_dflt ((refine' ListComp_W (cl := []) ?F ?c1 ?c2 ?c3 ?c4 ?c5 ?_ ?c6); (case F => k_asm); (case c1 => with_unfolding_all rfl); (case c2 => decide); (case c3 => rfl); (case c4 => decide); (case c5 => rfl); (case c6 => (intro _; rfl))))
  k_steps
  refine' SrcW.str rfl (by assumption) (by assumption) ?z (fun g => ?_)
  case z => (rw [sizeLine_eq]; omega)
  refine comp_rest (α := Nat) x.cps.toList (fun c v => ∃ u, v = .str ⟨#[c]⟩ u) (fun c y => ∃ u, y = .int (c : Int) u) ?_ ?_ ?_
  · rintro i v hi ⟨c, u, hc, rfl⟩
    exact ⟨c, by simpa using hc, u, rfl⟩
  · rintro c v I oI C oC D m₂ ys h tk E' hc ⟨u, rfl⟩ hC hx F' N' off ne
    k_steps
    k_dflt (refine LCg.CompEnd.intro (by assumption) (by assumption) news ?_ off trivial ⟨rfl, _, rfl⟩)
    exact fun _ h => h
  · intro ys hys D h tk F' N' ho
    obtain ⟨i1, i2⟩ := paired_ints_of hys
    (k_with "call type:bytes" => k_dflt ((refine' bytes_K ?F ?N ?l i1 ?r ?z ?h ?_); (case F => k_asm); (case N => k_asm); (case l => exact ⟨_, (N' _ (.head _)).1, rfl, _, rfl⟩); (case r => (intro n hn; (obtain ⟨c, hc, rfl⟩ := List.mem_map.mp hn); (have := h1 c hc); omega)); (case z => (rw [i2, sizeLine_eq, Array.length_toList]; omega)); (case h => rfl); (intro h' t' k' F' N' hB)))
    k_steps
    k_dflt (refine' oct_ret hret ?_ ?_ ?_)
    case refine'_1 => assumption
    case refine'_2 => (refine' cb_drop ?n1 ?n2; (case n1 => assumption); (case n2 => exact fun _ h => .tail _ h))
    case refine'_3 => (rw [List.map_map]; rfl)
end Mine
end
theorem Mine.walk_off_TX : True := by
  w_top off
  exact True.intro
section
open PySem PySem.W PyProof.Rows
set_option Elab.async false
set_option maxRecDepth 100000
set_option maxHeartbeats 8000000
namespace Mine
theorem paired_strs_of : ∀ {l : List UInt8} {ys : List Value}, Paired (fun c y => ∃ u, y = Value.str ⟨#[c.toNat]⟩ u) l ys → StrsAre ys (l.map fun c => (⟨#[c.toNat]⟩ : Str)) ∧ ys.length = l.length
  | [], _, .nil => ⟨.nil, rfl⟩
  | c :: l, _, .cons h r => by
    obtain ⟨u, rfl⟩ := h
    have ih := paired_strs_of r
    exact ⟨.cons _ u ih.1, by rw [List.length_cons, List.length_cons, ih.2]⟩
theorem ones_weight (x : List UInt8) : ((x.map fun c => (⟨#[c.toNat]⟩ : Str)).map (·.length)).sum + (x.map fun c => (⟨#[c.toNat]⟩ : Str)).length = 2 * x.length := by
  induction x with
  | nil => rfl
  | cons c r ih =>
    simp only [List.map_cons, List.sum_cons, List.length_cons] at ih ⊢
    have : Str.length (⟨#[c.toNat]⟩ : Str) = 1 := rfl
    omega
theorem join_text (x : List UInt8) : Txt.join (Str.ofString "") (x.map fun c => (⟨#[c.toNat]⟩ : Str)) = ⟨(x.map (·.toNat)).toArray⟩ := by
  show Builtin.Str.glued _ _ = _
  rw [StrLaws.glued_eq_join]
  have e0 : Str.ofString "" = ⟨#[]⟩ := by decide +kernel
  rw [e0]
  induction x with
  | nil => rfl
  | cons c r ih =>
    cases r with
    | nil => rfl
    | cons d r =>
      have e : Str.join ⟨#[]⟩ ((c :: d :: r).map fun c => (⟨#[c.toNat]⟩ : Str)) = (⟨#[c.toNat]⟩ : Str) ++ ⟨#[]⟩ ++ Str.join ⟨#[]⟩ ((d :: r).map fun c => (⟨#[c.toNat]⟩ : Str)) := rfl
      rw [e, ih]
      show (⟨(#[c.toNat] ++ #[]) ++ ((d :: r).map (·.toNat)).toArray⟩ : Str) = _
      congr 1
      simp
theorem str_ret {h₀ : Heap} {L : Addr} {m : Str → Option Value} {news : List (Addr × Obj)} {s : Shared} {Q : Value → Shared → Prop} {r r' : Str} {t : Tok} {h' : Heap} {tk' : Nat}
  (hret : ∀ t h' tk', Fr h₀ L h' m → News h₀ L h' news → Q (.str r t) { s with heap := h', toks := tk' })
  (F : Fr h₀ L h' m) (N : News h₀ L h' news) (e : r' = r) : Q (.str r' t) { s with heap := h', toks := tk' } := by
  subst e
  exact hret t h' tk' F N
theorem c_text {w : World} {p : Program} {loose : List Str} {mean : ExcName → Option Value} {mg mb : Str → Option Value}
  {dp un : Nat} {gd : Option (List Code)} {cn : Str} {cs : Scope} {a : Addr} {ccd : Value} {cl : List (Str × Addr)} {outer : List Env} {A₀ : Around} {base h₀ : Heap} {L : Addr} {m : Str → Option Value} {news : List (Addr × Obj)} {s : Shared} {Q E : Value → Shared → Prop}
  (B : Below A₀ base outer h₀) (F : Fr h₀ L s.heap m) (X : (hd.heap_39 w.params).In h₀) (N : News h₀ L s.heap news) (T : Top p loose mean mg mb h₀) (hk : cs.kind = .function)
  (hdp : dp + 10 < recursionLimit) (hu : un + 1000 < cLine)
  {x : List UInt8} {t1 : Tok} (h2 : x.length < 2 ^ 10)
  (hret : ∀ t h' tk', Fr h₀ L h' m → News h₀ L h' news → Q (.str ⟨(x.map (·.toNat)).toArray⟩ t) { s with heap := h', toks := tk' }) :
  wpAny (model PySem.Challenge.rw_xi0006_01.row.prog w) (ktrTop dp un gd cn cs L a ccd cl outer) (call (.ref 132) [.bytes x.toArray t1]) Q E s := by
  k_with_none
  revert X; k_fill; intro X
  refine wpAny_call ?_
  k_dflt cell_enter
  (k_with "eval ListComp" => k_dflt ((refine' ListComp_W (cl := []) ?F ?c1 ?c2 ?c3 ?c4 ?c5 ?_ ?c6); (case F => k_asm); (case c1 => with_unfolding_all rfl); (case c2 => decide); (case c3 => rfl); (case c4 => decide); (case c5 => rfl); (case c6 => (intro _; rfl))))
  k_steps
  refine' SrcW.bytes rfl (by assumption) (by assumption) ?z (fun g => ?_)
  case z => (rw [sizeLine_eq, List.size_toArray]; omega)
  rw [List.size_toArray]
  refine comp_rest (α := UInt8) x (fun c v => ∃ u, v = .int (c.toNat : Int) u) (fun c y => ∃ u, y = .str ⟨#[c.toNat]⟩ u) ?_ ?_ ?_
  · rintro i v hi ⟨c, u, hc, rfl⟩
    exact ⟨c, by simpa using hc, u, rfl⟩
  · rintro c v I oI C oC D m₂ ys h tk E' hc ⟨u, rfl⟩ hC hx F' N' off ne
    have hc1 := c.toNat_lt
    k_steps
    k_dflt (refine LCg.CompEnd.intro (by assumption) (by assumption) news ?_ off trivial ⟨rfl, _, rfl⟩)
    exact fun _ h => h
  · intro ys hys D h tk F' N' ho
    obtain ⟨i1, i2⟩ := paired_strs_of hys
    (k_with "call builtin:str.join" => k_dflt ((refine' join_listW ?l i1 ?r ?z ?_); (case l => exact ⟨_, (N' _ (.head _)).1, rfl, _, rfl⟩); (case r => decide); (case z => (rw [ones_weight]; omega)); (intro t' k')))
    k_steps
    k_dflt (refine' str_ret hret ?_ ?_ ?_)
    case refine'_1 => assumption
    case refine'_2 => (refine' cb_drop ?n1 ?n2; (case n1 => assumption); (case n2 => exact fun _ h => .tail _ h))
    case refine'_3 => exact join_text x
end Mine
end
theorem Mine.walk_off_IN : True := by
  w_top off
  exact True.intro
section
local macro_rules | `(tactic| k_all) => `(tactic| first | with_reducible assumption | exact Mine.allLt_ne (by with_reducible assumption) (by omega))
section
open PySem PySem.W PyProof.Rows
set_option Elab.async false
set_option maxRecDepth 100000
set_option maxHeartbeats 8000000
namespace Mine

/-- the parts of inner, as the made def holds them -/
noncomputable def iParts (p : Params) : Option (Arguments × List Stmt × Scope) := match (hd.heap_39 p).lookup 52 with
  | some ⟨_, _, .func fd, _⟩ => match fd.body with
    | .stmts (.FunctionDef _ ar bd _ _ _ sc _ _ _ :: _) => some (ar, bd, sc)
    | _ => none
  | _ => none
theorem use_parts {α : Type} {o : Option α} {x y : α} {G : Prop} (h : o = some x) (e : o = some y) (k : x = y → G) : G := k (by rw [h] at e; cases e; rfl)
theorem len_pos {α : Type} {l : List α} {i : Nat} {v : α} (h : l[i]? = some v) : i < l.length := (List.getElem?_eq_some_iff.mp h).1
noncomputable def InnerC (w : World) (f c' a1 a2 a3 l : Addr) (qual : Str) (vs : List Value) (ns : List Int) (k : Nat) : Prop :=
  ∀ {p : Program} {loose : List Str} {mean : ExcName → Option Value} {mg mb : Str → Option Value}
  {dp un : Nat} {gd : Option (List Code)} {cn : Str} {cs : Scope} {a : Addr} {ccd : Value} {cl : List (Str × Addr)} {outer : List Env} {A₀ : Around} {base h₀ : Heap} {L : Addr} {m : Str → Option Value} {news : List (Addr × Obj)} {s : Shared} {Q E : Value → Shared → Prop}
  {ar : Arguments} {bd : List Stmt} {sc : Scope} {doc pm ctv : Value} {oc o1 o2 o3 : Obj} {cvs : Array Value} {t9 : Tok} {lk : Nat} {lo hi : Nat} {t1 t2 t4 : Tok} (B : Below A₀ base outer h₀) (F : Fr h₀ L s.heap m) (X : (hd.heap_39 w.params).In h₀) (N : News h₀ L s.heap news) (T : Top p loose mean mg mb h₀) (hk : cs.kind = .function)
  (hdp : dp + k + 2 < recursionLimit) (hu : un + 400 * k + 1000 < cLine) (hp : iParts w.params = some (ar, bd, sc)) (hf : (f, fnMade (Str.ofString "inner") qual ar bd sc [(Str.ofString "n", a2), (Str.ofString "inner", a3), (Str.ofString "digits", a1)] doc pm c' ctv) ∈ news)
  (hc : (c', oc) ∈ news) (hcd : oc.data = .fields cvs) (hcv : cvs[1]? = some (.str qual t9)) (m1 : (a1, o1) ∈ news) (d1 : o1.data = .cell (some (.ref l))) (m2 : (a2, o2) ∈ news) (d2 : o2.data = .cell (some (.int 4 t4))) (m3 : (a3, o3) ∈ news) (d3 : o3.data = .cell (some (.ref f)))
  (ml : (l, listOf vs.toArray lk) ∈ news) (hlt : lo < hi) (hle : hi ≤ ns.length) (hk9 : hi - lo ≤ 2 ^ k)
  (hret : ∀ t h' tk', Fr h₀ L h' m → News h₀ L h' news → Q (.int (numOf (seg ns lo hi)) t) { s with heap := h', toks := tk' }),
  wpAny (model PySem.Challenge.rw_xi0006_01.row.prog w) (ktrTop dp un gd cn cs L a ccd cl outer) (call (.ref f) [.int lo t1, .int hi t2]) Q E s
theorem c_inner1 {w : World} {f c' a1 a2 a3 l : Addr} {qual : Str} {vs : List Value} {ns : List Int} (hi : IntsAre vs ns) (hb : ∀ n ∈ ns, 0 ≤ n ∧ n < 16) (hl : ns.length ≤ 40) {k : Nat} (ih : ∀ j, k = j + 1 → InnerC w f c' a1 a2 a3 l qual vs ns j) : InnerC w f c' a1 a2 a3 l qual vs ns k := by
    intro p loose mean mg mb dp un gd cn cs a ccd cl outer A₀ base h₀ L m news s Q E ar bd sc doc pm ctv oc o1 o2 o3 cvs t9 lk lo hi t1 t2 t4 B F X N T hk hdp hu hp hf hc hcd hcv m1 d1 m2 d2 m3 d3 ml hlt hle hk9 hret
    refine' use_parts hp (y := (?A, ?B, ?C)) ?e ?_
    case e => k_dflt (unfold iParts; rfl)
    intro e9
    cases e9
    k_with_none
    revert X; k_fill; intro X
    refine wpAny_call ?_
    k_dflt (refine' code_nest ?k1 ?k2 ?k3 ?k4 ?k5 ?kA ?kF ?kK ?k6 ?k7 ?k8 ?k9 ?kB ?_ ?c2 ?c3 ?c4 ?c5; (case kA => exact rfl); (case kF => exact rfl); (case kK => assumption); (case k1 => k_asm); (case k2 => k_asm); (case k3 => k_asm); (case k4 => k_asm); (case k5 => k_asm); (case k6 => exact hf); (case k7 => exact codeRec_news (by k_asm) hc hcd hcv); (case k8 => ktr_room); (case k9 => exact BindsTo.of_eq rfl); (case c5 => decide); (case kB => exact locs rfl); (case c2 => exact rfl); (case c3 => exact rfl); (case c4 => exact rfl); k_whole; intro g' L' h' FG' F' N' B' X' T'; (try dsimp only); (try k_lift B'); (try k_fold))
    (k_with "eval Name" => ((with_reducible show wpAny _ _ (eval (.Name (Str.ofString "digits") _) _) _ _ _); k_dflt (refine' nameX_F ?N ?c m1 d1 ?_ ?a ?b; (case a => rfl); (case b => rfl); (case c => rfl); (case N => k_asm))))
    (k_with "eval Name" => ((with_reducible show wpAny _ _ (eval (.Name (Str.ofString "n") _) _) _ _ _); k_dflt (refine' nameX_F ?N ?c m2 d2 ?_ ?a ?b; (case a => rfl); (case b => rfl); (case c => rfl); (case N => k_asm))))
    (k_with "eval Name" => ((with_reducible show wpAny _ _ (eval (.Name (Str.ofString "inner") _) _) _ _ _); k_dflt (refine' nameX_F ?N ?c m3 d3 ?_ ?a ?b; (case a => rfl); (case b => rfl); (case c => rfl); (case N => k_asm))))
    (k_with "ite" => refine Stop.mk ?_)
    k_steps
    refine Stop.out ?_
    by_cases he : lo + 1 = hi
    · subst he
      rw [if_pos (by simp)]
      (k_with "eval Subscript" => (refine Subscript_ ?_))
      (k_with "subscriptTail" => refine Stop.mk ?_)
      k_steps
      refine Stop.out ?_
      have h9 := seg_one (ns := ns) (lo := lo) (by omega)
      refine item_list_intsR ⟨_, ((by assumption : News _ _ _ news) _ ml).1, rfl, _, rfl⟩ hi (by omega) (by omega) (by omega) (fun t9 => ?_)
      have e9 : ns.getD (lo : Int).toNat 0 = numOf (seg ns lo (lo + 1)) := by
        rw [h9, Int.toNat_natCast, List.getD_eq_getElem?_getD, List.getElem?_eq_getElem (by omega), Option.getD_some]
      rw [e9]
      k_steps
      exact hret _ _ _ (by assumption) (by assumption)
    · rw [if_neg (by simp; omega)]
      obtain ⟨j, rfl⟩ : ∃ j, k = j + 1 := by
        cases k with
        | zero => simp at hk9; omega
        | succ j => exact ⟨j, rfl⟩
      have ih : InnerC w f c' a1 a2 a3 l qual vs ns j := @ih j rfl
      have hpw : 2 ^ (j + 1) = 2 * 2 ^ j := by rw [Nat.pow_succ, Nat.mul_comm]
      obtain ⟨mid, hmid⟩ : ∃ mid, mid = (lo + hi) / 2 := ⟨_, rfl⟩
      have hfd : ((lo : Int) + hi).fdiv (2 ^ Int.toNat 1) = (mid : Int) := by
        rw [Int.fdiv_eq_ediv_of_nonneg _ (by decide), hmid]; simp
      have b1 : lo < mid := by omega
      have b2 : mid < hi := by omega
      have b3 : mid - lo ≤ 2 ^ j := by omega
      have b4 : hi - mid ≤ 2 ^ j := by omega
      have v1 := seg_bounds (lo := mid) hle hb
      have v2 : (16 : Int) ^ (hi - mid) ≤ 2 ^ 160 := by
        rw [pow16]
        have : ((2 ^ (4 * (hi - mid)) : Nat) : Int) ≤ ((2 ^ 160 : Nat) : Int) := Int.ofNat_le.mpr (Nat.pow_le_pow_right (by decide) (by omega))
        simpa using this
      have v3 := intBits_le (numOf (seg ns mid hi)) 160 v1.1 (by omega)
      clear b3 b4
      (k_with "binaryOp RShift int int" => k_dflt ((refine' rshift_int ?a ?_); (case a => decide); (rw [hfd])))
      (k_with "binaryOp LShift int int" => k_dflt ((refine' lshift_int ?a ?b ?_); (case a => omega); (case b => omega)))
      (k_with "callWith ref" => k_dflt (refine' callWith_F ?k1 ?_; (case k1 => exact FnAt.of (by k_asm) hf); k_whole))
      (k_with "FnAt" => k_dflt (exact FnAt.of (by k_asm) hf))
      (k_with "call ref" => k_dflt (refine' ih ?k1 ?k2 ?k3 ?k4 ?k5 ?kK ?kd ?ku hp hf hc hcd hcv m1 d1 m2 d2 m3 d3 ml ?p1 ?p2 ?p3 ?_; (case k1 => k_asm); (case k2 => k_asm); (case k3 => k_asm); (case k4 => k_asm); (case k5 => k_asm); (case kK => first | exact rfl | assumption); (case kd => ktr_room); (case ku => ktr_units); (case p1 => omega); (case p2 => omega); (case p3 => omega); (intro t9 h9 tk9 F9 N9)))
      k_steps
      rw [shift_val (ns := ns) (lo := lo) (mid := mid) (hi := hi) (by omega) (by omega) hle rfl]
      exact hret _ _ _ (by assumption) (by assumption)
theorem c_inner {w : World} {f c' a1 a2 a3 l : Addr} {qual : Str} {vs : List Value} {ns : List Int} (hi : IntsAre vs ns) (hb : ∀ n ∈ ns, 0 ≤ n ∧ n < 16) (hl : ns.length ≤ 40) : ∀ k, InnerC w f c' a1 a2 a3 l qual vs ns k := by
  intro k
  induction k with
  | zero => exact @c_inner1 w f c' a1 a2 a3 l qual vs ns hi hb hl 0 (by intro j e; omega)
  | succ k ih => exact @c_inner1 w f c' a1 a2 a3 l qual vs ns hi hb hl (k + 1) (by intro j e; cases e; exact @ih)
end Mine
end
theorem Mine.walk_off_DI : True := by
  w_top off
  exact True.intro
section
open PySem PySem.W PyProof.Rows
set_option Elab.async false
set_option maxRecDepth 100000
set_option maxHeartbeats 8000000
namespace Mine

/-- the table of _digits2int's code: empty, or with inner's code -/
inductive Tab : List (Addr × Obj) → Prop where
  | fresh : Tab [(47, tabObj #[])]
  | full (c : Addr) (oc : Obj) (vs : Array Value) (t : Tok) : oc.data = .fields vs → vs[1]? = some (.str (Str.ofString "_digits2int.<locals>.inner") t) → c ≠ 47 → Tab [(c, oc), (47, tabObj #[rawInt 32, rawInt 4, .ref c])]
noncomputable def Off2 (tab news : List (Addr × Obj)) : Prop := ∀ q ∈ tab, ∀ p ∈ news, p.1 ≠ q.1
theorem off2_full {c : Addr} {oc o : Obj} {news : List (Addr × Obj)} (h1 : ∀ p ∈ news, p.1 ≠ c) (h2 : ∀ p ∈ news, p.1 ≠ 47) : Off2 [(c, oc), (47, o)] news :=
  List.forall_mem_cons.mpr ⟨h1, List.forall_mem_cons.mpr ⟨h2, fun _ h => nomatch h⟩⟩
theorem d2i_ret {h₀ : Heap} {L : Addr} {m : Str → Option Value} {news nw : List (Addr × Obj)} {s : Shared} {Q : Value → Shared → Prop} {n n' : Int} {t : Tok} {h' : Heap} {tk' : Nat} {c : Addr} {oc : Obj} {vs : Array Value} {q : Str} {t9 : Tok}
  (h47 : ∀ p ∈ news, p.1 ≠ 47) (hret : ∀ t tab' h' tk', Tab tab' → Off2 tab' news → Fr h₀ L h' m → News h₀ L h' (tab' ++ news) → Q (.int n t) { s with heap := h', toks := tk' })
  (F : Fr h₀ L h' m) (N : News h₀ L h' nw) (hd : oc.data = .fields vs) (hv : vs[1]? = some (.str q t9)) (e1 : q = Str.ofString "_digits2int.<locals>.inner") (hne : c ≠ 47) (ho : ∀ p ∈ news, p.1 ≠ c) (hs : ∀ p ∈ (c, oc) :: (47, tabObj #[rawInt 32, rawInt 4, .ref c]) :: news, p ∈ nw) (e : n' = n) :
  Q (.int n' t) { s with heap := h', toks := tk' } := by
  subst e; subst e1
  exact hret t _ h' tk' (.full c oc vs t9 hd hv hne) (off2_full ho h47) F fun p hp => N p (hs p hp)
theorem c_d2i {w : World} {p : Program} {loose : List Str} {mean : ExcName → Option Value} {mg mb : Str → Option Value}
  {dp un : Nat} {gd : Option (List Code)} {cn : Str} {cs : Scope} {a : Addr} {ccd : Value} {cl : List (Str × Addr)} {outer : List Env} {A₀ : Around} {base h₀ : Heap} {L : Addr} {m : Str → Option Value} {news : List (Addr × Obj)} {s : Shared} {Q E : Value → Shared → Prop}
  (B : Below A₀ base outer h₀) (F : Fr h₀ L s.heap m) (X : (hd.heap_39 w.params).In h₀) (N : News h₀ L s.heap news) (T : Top p loose mean mg mb h₀) (hk : cs.kind = .function)
  (hdp : dp + 60 < recursionLimit) (hu : un + 6000 < cLine)
  {tab : List (Addr × Obj)} (hC : CodeHd h₀ 51 47) (hT : Tab tab) (N9 : News h₀ L s.heap (tab ++ news)) (h47 : ∀ p ∈ news, p.1 ≠ 47) (hoff : Off2 tab news) {l : Addr} {vs : List Value} {ns : List Int} {k : Nat} {t1 : Tok} (hm : (l, listOf vs.toArray k) ∈ news) (hi : IntsAre vs ns) (hb : ∀ n ∈ ns, 0 ≤ n ∧ n < 16) (hl : ns.length ≤ 40)
  (hret : ∀ t tab' h' tk', Tab tab' → Off2 tab' news → Fr h₀ L h' m → News h₀ L h' (tab' ++ news) → Q (.int (numOf ns) t) { s with heap := h', toks := tk' }) :
  wpAny (model PySem.Challenge.rw_xi0006_01.row.prog w) (ktrTop dp un gd cn cs L a ccd cl outer) (call (.ref 52) [.ref l, .int 4 t1]) Q E s := by
  clear N
  cases hT with
  | fresh =>
    have N := N9
    clear N9
    rw [List.cons_append, List.nil_append] at N
    k_with_none
    revert X; k_fill; intro X
    refine wpAny_call ?_
    k_dflt (refine' code_defC ?k1 ?k2 ?k3 ?k4 ?k5 ?kA ?kF ?kK ?k6 ?k7 ?k8 ?k9 ?kB ?kD ?_ ?c2 ?c3 ?c4; (case kA => exact rfl); (case kF => exact rfl); (case kK => assumption); (case k1 => k_asm); (case k2 => k_asm); (case k3 => k_asm); (case k4 => k_asm); (case k5 => k_asm); (case k6 => k_is); (case k7 => k_is); (case k8 => ktr_room); (case k9 => exact BindsTo.of_eq rfl); (case kB => exact rfl); (case kD => decide +kernel); (case c2 => exact rfl); (case c3 => exact rfl); (case c4 => exact rfl); k_whole; intro g' L' h' tk' cells' FG' F' N' Y' B' X' T' l1; (try k_lt l1); k_cells Y'; (try simp only [List.cons_append, List.nil_append] at N'); (try dsimp only); (try k_lift B'); (try k_fold))
    obtain ⟨l47, lN⟩ := l1
    have hC' := CodeHd.keeps hC (Fr.keep (by assumption : Fr h₀ L _ m))
    have hsz : vs.toArray.size = ns.length := by rw [List.size_toArray]; exact hi.length
    have hfit : (vs.toArray.size : Int) < 2 ^ 63 := by omega
    (k_with "truthy" => refine Stop.mk ?_)
    k_steps
    refine Stop.out ?_
    refine wpAny_truthy_list (items := vs.toArray) ⟨_, ((by assumption : News _ _ _ (_ :: _)) _ (by first | exact (.tail _ (.tail _ (.tail _ (.tail _ (.tail _ (.tail _ hm)))))) | k_mem)).1, rfl, _, rfl⟩ hfit ?_
    cases hi with
    | nil => 
      k_steps
      k_dflt (refine' d2i_ret h47 hret ?F ?N ?d ?v ?q ?n ?o ?s ?e; (case F => assumption); (case N => assumption); (case d => assumption); (case v => assumption); (case q => rfl); (case s => (refine sub_cons (by k_mem) ?_; refine sub_cons (by k_mem) ?_; (repeat' (first | with_reducible_and_instances apply sub_refl | refine sub_skip ?_)))); (case n => k_ne); (case o => (refine off_lt ?_; (first | with_reducible_and_instances assumption | (refine ktn_ltOf ?_; with_reducible_and_instances (first | assumption | exact And.right (by assumption) | exact And.right (And.right (by assumption)) | exact And.right (And.right (And.right (by assumption))) | exact And.right (And.right (And.right (And.right (by assumption)))) | exact And.right (And.right (And.right (And.right (And.right (by assumption))))) | exact And.right (And.right (And.right (And.right (And.right (And.right (by assumption)))))) | exact And.right (And.right (And.right (And.right (And.right (And.right (And.right (by assumption))))))) | exact And.right (And.right (And.right (And.right (And.right (And.right (And.right (And.right (by assumption)))))))) | exact And.right (And.right (And.right (And.right (And.right (And.right (And.right (And.right (And.right (by assumption))))))))) | exact And.right (And.right (And.right (And.right (And.right (And.right (And.right (And.right (And.right (And.right (by assumption)))))))))) | exact And.right (And.right (And.right (And.right (And.right (And.right (And.right (And.right (And.right (And.right (And.right (by assumption))))))))))) | exact And.right (And.right (And.right (And.right (And.right (And.right (And.right (And.right (And.right (And.right (And.right (And.right (by assumption)))))))))))) | exact And.right (And.right (And.right (And.right (And.right (And.right (And.right (And.right (And.right (And.right (And.right (And.right (And.right (by assumption)))))))))))))))))))
      · rfl
    | cons n tk hi' =>
      have hi := IntsAre.cons n tk hi'
      (k_with "call builtin:len" => k_dflt (refine len_list ⟨_, ((by assumption : News _ _ _ (_ :: _)) _ (by first | exact (.tail _ (.tail _ (.tail _ (.tail _ (.tail _ (.tail _ hm)))))) | k_mem)).1, rfl, _, rfl⟩ hfit ?_))
      (k_with "callWith ref" => k_dflt (refine' callWith_F ?k1 ?_; (case k1 => exact FnAt.of (by k_asm) (by k_mem)); k_whole))
      (k_with "FnAt" => k_dflt (exact FnAt.of (by k_asm) (by k_mem)))
      (k_with "call ref" => k_dflt (refine' c_inner (f := _) (c' := _) (a1 := _) (a2 := _) (a3 := _) (l := _) (qual := _) hi hb hl 6 (lo := 0) ?k1 ?k2 ?k3 ?k4 ?k5 ?kK ?kd ?ku ?hp ?hf ?hc ?hcd ?hcv ?m1 ?d1 ?m2 ?d2 ?m3 ?d3 ?ml ?p1 ?p2 ?p3 ?_; (case k1 => k_asm); (case k2 => k_asm); (case k3 => k_asm); (case k4 => k_asm); (case k5 => k_asm); (case kK => first | exact rfl | assumption); (case kd => ktr_room); (case ku => ktr_units); (case hp => (unfold iParts; rfl)); (case hf => k_mem); (case hc => k_mem); (case hcd => assumption); (case hcv => assumption); (case m1 => k_mem); (case d1 => assumption); (case m2 => k_mem); (case d2 => assumption); (case m3 => k_mem); (case d3 => assumption); (case ml => exact (.tail _ (.tail _ (.tail _ (.tail _ (.tail _ (.tail _ hm))))))); (case p1 => (rw [hsz, List.length_cons]; omega)); (case p2 => (rw [hsz]; exact Nat.le_refl _)); (case p3 => (rw [hsz]; omega)); (intro t9 h9 tk9 F9 N9)))
      k_steps
      · simp at *
      k_dflt (refine' d2i_ret h47 hret ?F2 ?N2 ?d2 ?v2 ?q2 ?n2 ?o2 ?s2 ?e2; (case F2 => assumption); (case N2 => assumption); (case d2 => assumption); (case v2 => assumption); (case q2 => rfl); (case s2 => (refine sub_cons (by k_mem) ?_; refine sub_cons (by k_mem) ?_; (repeat' (first | with_reducible_and_instances apply sub_refl | refine sub_skip ?_)))); (case n2 => k_ne); (case o2 => (refine off_lt ?_; (first | with_reducible_and_instances assumption | (refine ktn_ltOf ?_; with_reducible_and_instances (first | assumption | exact And.right (by assumption) | exact And.right (And.right (by assumption)) | exact And.right (And.right (And.right (by assumption))) | exact And.right (And.right (And.right (And.right (by assumption)))) | exact And.right (And.right (And.right (And.right (And.right (by assumption))))) | exact And.right (And.right (And.right (And.right (And.right (And.right (by assumption)))))) | exact And.right (And.right (And.right (And.right (And.right (And.right (And.right (by assumption))))))) | exact And.right (And.right (And.right (And.right (And.right (And.right (And.right (And.right (by assumption)))))))) | exact And.right (And.right (And.right (And.right (And.right (And.right (And.right (And.right (And.right (by assumption))))))))) | exact And.right (And.right (And.right (And.right (And.right (And.right (And.right (And.right (And.right (And.right (by assumption)))))))))) | exact And.right (And.right (And.right (And.right (And.right (And.right (And.right (And.right (And.right (And.right (And.right (by assumption))))))))))) | exact And.right (And.right (And.right (And.right (And.right (And.right (And.right (And.right (And.right (And.right (And.right (And.right (by assumption)))))))))))) | exact And.right (And.right (And.right (And.right (And.right (And.right (And.right (And.right (And.right (And.right (And.right (And.right (And.right (by assumption)))))))))))))))))))
      rw [hsz, seg_all]

  | full c oc cvs ct hd hv hne =>
    have N := N9
    clear N9
    rw [List.cons_append, List.cons_append, List.nil_append] at N
    k_with_none
    revert X; k_fill; intro X
    refine wpAny_call ?_
    k_dflt (refine' code_defC ?k1 ?k2 ?k3 ?k4 ?k5 ?kA ?kF ?kK ?k6 ?k7 ?k8 ?k9 ?kB ?kD ?_ ?c2 ?c3 ?c4; (case kA => exact rfl); (case kF => exact rfl); (case kK => assumption); (case k1 => k_asm); (case k2 => k_asm); (case k3 => k_asm); (case k4 => k_asm); (case k5 => k_asm); (case k6 => k_is); (case k7 => k_is); (case k8 => ktr_room); (case k9 => exact BindsTo.of_eq rfl); (case kB => exact rfl); (case kD => decide +kernel); (case c2 => exact rfl); (case c3 => exact rfl); (case c4 => exact rfl); k_whole; intro g' L' h' tk' cells' FG' F' N' Y' B' X' T' l1; (try k_lt l1); k_cells Y'; (try simp only [List.cons_append, List.nil_append] at N'); (try dsimp only); (try k_lift B'); (try k_fold))
    obtain ⟨lc, l47, lN⟩ := l1
    have hC' := CodeHd.keeps hC (Fr.keep (by assumption : Fr h₀ L _ m))
    have hsz : vs.toArray.size = ns.length := by rw [List.size_toArray]; exact hi.length
    have hfit : (vs.toArray.size : Int) < 2 ^ 63 := by omega
    (k_with "truthy" => refine Stop.mk ?_)
    k_steps
    refine Stop.out ?_
    refine wpAny_truthy_list (items := vs.toArray) ⟨_, ((by assumption : News _ _ _ (_ :: _)) _ (by first | exact (.tail _ (.tail _ (.tail _ (.tail _ (.tail _ (.tail _ hm)))))) | k_mem)).1, rfl, _, rfl⟩ hfit ?_
    cases hi with
    | nil => 
      k_steps
      k_dflt (refine' d2i_ret h47 hret ?Fx ?Nx ?dx ?vx ?qx ?nx ?ox ?sx ?ex; (case Fx => assumption); (case Nx => assumption); (case dx => assumption); (case vx => assumption); (case qx => rfl); (case sx => (refine sub_cons (by k_mem) ?_; refine sub_cons (by k_mem) ?_; (repeat' (first | with_reducible_and_instances apply sub_refl | refine sub_skip ?_)))); (case nx => exact hne); (case ox => exact hoff _ (.head _)))
      · rfl
    | cons n tk hi' =>
      have hi := IntsAre.cons n tk hi'
      (k_with "call builtin:len" => k_dflt (refine len_list ⟨_, ((by assumption : News _ _ _ (_ :: _)) _ (by first | exact (.tail _ (.tail _ (.tail _ (.tail _ (.tail _ (.tail _ hm)))))) | k_mem)).1, rfl, _, rfl⟩ hfit ?_))
      (k_with "callWith ref" => k_dflt (refine' callWith_F ?k1x ?_; (case k1x => exact FnAt.of (by k_asm) (by k_mem)); k_whole))
      (k_with "FnAt" => k_dflt (exact FnAt.of (by k_asm) (by k_mem)))
      (k_with "call ref" => k_dflt (refine' c_inner (f := _) (c' := _) (a1 := _) (a2 := _) (a3 := _) (l := _) (qual := _) hi hb hl 6 (lo := 0) ?k1x ?k2x ?k3x ?k4x ?k5x ?kKx ?kdx ?kux ?hpx ?hfx ?hcx ?hcdx ?hcvx ?m1x ?d1x ?m2x ?d2x ?m3x ?d3x ?mlx ?p1x ?p2x ?p3x ?_; (case k1x => k_asm); (case k2x => k_asm); (case k3x => k_asm); (case k4x => k_asm); (case k5x => k_asm); (case kKx => first | exact rfl | assumption); (case kdx => ktr_room); (case kux => ktr_units); (case hpx => (unfold iParts; rfl)); (case hfx => k_mem); (case hcx => k_mem); (case hcdx => assumption); (case hcvx => assumption); (case m1x => k_mem); (case d1x => assumption); (case m2x => k_mem); (case d2x => assumption); (case m3x => k_mem); (case d3x => assumption); (case mlx => exact (.tail _ (.tail _ (.tail _ (.tail _ (.tail _ (.tail _ hm))))))); (case p1x => (rw [hsz, List.length_cons]; omega)); (case p2x => (rw [hsz]; exact Nat.le_refl _)); (case p3x => (rw [hsz]; omega)); (intro t9 h9 tk9 F9 N9)))
      k_steps
      · simp at *
      k_dflt (refine' d2i_ret h47 hret ?F2x ?N2x ?d2x ?v2x ?q2x ?n2x ?o2x ?s2x ?e2x; (case F2x => assumption); (case N2x => assumption); (case d2x => assumption); (case v2x => assumption); (case q2x => rfl); (case s2x => (refine sub_cons (by k_mem) ?_; refine sub_cons (by k_mem) ?_; (repeat' (first | with_reducible_and_instances apply sub_refl | refine sub_skip ?_)))); (case n2x => exact hne); (case o2x => exact hoff _ (.head _)))
      rw [hsz, seg_all]

end Mine
end
theorem Mine.walk_off_RV : True := by
  w_top off
  exact True.intro
section
open PySem PySem.W PyProof.Rows PyProof.V PySem.Spec PySem.Calls
set_option maxRecDepth 100000
namespace Mine
open Builtin KBy KBc
theorem pick_rev (b : Array UInt8) : Bytes.sliced b ((b.size : Int) - 1) (-1) (-1) = b.toList.reverse.toArray := by
  unfold Bytes.sliced sliceRange
  congr 1
  have e : (if (-1 : Int) > 0 then (if (b.size : Int) - 1 < -1 then (-1 - ((b.size : Int) - 1) + -1 - 1) / -1 else 0) else (if (b.size : Int) - 1 > -1 then ((b.size : Int) - 1 - -1 - -1 - 1) / (- -1) else 0)).toNat = b.size := by
    rw [if_neg (by decide)]
    split
    · rw [show (- -1 : Int) = 1 from rfl, Int.ediv_one]; omega
    · omega
  dsimp only
  rw [e]
  apply List.ext_getElem?
  intro i
  rw [List.filterMap_map]
  have key : ∀ n, n ≤ b.size → (List.range n).filterMap ((fun x => b[x]?) ∘ fun k : Nat => ((b.size : Int) - 1 + -1 * (k : Int)).toNat) = b.toList.reverse.take n := by
    intro n
    induction n with
    | zero => intro _; simp
    | succ n ih =>
      intro hn
      rw [List.range_succ, List.filterMap_append, ih (by omega), List.take_add_one, List.getElem?_reverse (by rw [Array.length_toList]; omega)]
      have e2 : ((b.size : Int) - 1 + -1 * (n : Int)).toNat = b.toList.length - 1 - n := by rw [Array.length_toList]; omega
      have e3 : b.toList.length - 1 - n < b.size := by rw [Array.length_toList]; omega
      simp only [List.filterMap_cons, List.filterMap_nil, Function.comp_apply]
      rw [e2, Array.getElem?_eq_getElem e3, List.getElem?_eq_getElem (by simpa using e3)]
      simp
  rw [key _ (Nat.le_refl _), List.take_of_length_le (by simp)]
theorem meets_rev (b : Array UInt8) (t : Tok) (a : Addr) (u : Tok) :
    Meets («bytes.__getitem__» ⟨[.bytes b t, .ref a], []⟩) (fun _ R s => s.heap.IsSliceOf a .none .none (.int (-1) u) ∧ b.size ≤ sizeLine ∧ ∀ t' k, R (.ok (.ret (.bytes b.toList.reverse.toArray t'))) { s with toks := k }) := by
  refine .of_wp fun prog w A R s hS => ?_
  obtain ⟨⟨o, ho, hc, hd⟩, hsz, h⟩ := hS
  have hT : s.TypeIs (.ref a) "slice" := ⟨o, ho, hc⟩
  show wpAny _ _ (Bytes.payload (.bytes b t) >>= fun r => _) _ _ s
  refine wpAny_bind (wpAny_of_eq (a := b) rfl ?_)
  show wpAny _ _ (Bytes.subscript? (.ref a) >>= fun r => _) _ _ s
  refine wpAny_bind ?_
  unfold Bytes.subscript?
  refine wpAny_bind (wpAny_specialOf hT slice_no_index (wpAny_pure ?_))
  refine wpAny_bind (wpAny_typeOf hT ?_)
  show wpAny _ _ (Bytes.sliceParts (.ref a) >>= fun r => _) _ _ s
  refine wpAny_bind ?_
  unfold Bytes.sliceParts
  refine wpAny_bind (wpAny_field (x := .int (-1) u) ho hd rfl ?_)
  kby_int
  refine wpAny_ite (KBy.ite_no (show ¬ ((rawInt (-1) == rawInt 0) = true) from by decide) ?_)
  refine wpAny_bind (wpAny_field (x := .none) ho hd rfl ?_)
  kby_none
  refine wpAny_bind (wpAny_field (x := .none) ho hd rfl ?_)
  kby_none
  refine wpAny_pure ?_
  have go : wpAny (model prog w) A.in1 (sliceIndices (rawPart none) (rawPart none) (rawPart (some (-1))) b.size) (fun r s' => r = sliceBounds none none (some (-1)) b.size ∧ s' = s) (fun _ _ => False) s :=
    wpAny_of_eq (sliceIndices_raw none none (some (-1)) b.size (by decide)) ⟨rfl, rfl⟩
  refine wpAny_bind (wpAny_mono go (fun r s' hr => ?_) fun _ _ e => e.elim)
  obtain ⟨hr1, hr2⟩ := hr
  subst hr1 hr2
  refine wpAny_ite (KBy.ite_no ?_ ?_)
  · show ¬ ((((b.size : Int) - 1 == 0) && ((-1 : Int) == 1) && ((-1 : Int) == b.size) && !b.isEmpty) = true)
    simp
  · have h' := h
    rw [← pick_rev] at h'
    exact wpAny_bind (wpAny_mkBytes (wpAny_pure ⟨_, rfl, h' _ _⟩) (by show (Bytes.sliced b ((b.size : Int) - 1) (-1) (-1)).size ≤ _; rw [pick_rev]; simpa using hsz))
section
variable {prog : Program} {w : World} {A : Around} {E : Value → Shared → Prop} {s : Shared} {value slice : PySem.Expr} {b : Array UInt8} {t : Tok} {h₀ : Heap} {L : Addr} {m : PySem.Str → Option Value} {news : List (Addr × Obj)} {Q : Value → Shared → Prop}
theorem brev {u : Tok} (hF : Fr h₀ L s.heap m) (hN : News h₀ L s.heap news) (hz : b.size ≤ 16777216)
    (h : ∀ h' t' k, Fr h₀ L h' m → News h₀ L h' news → Q (.bytes b.toList.reverse.toArray t') { s with heap := h', toks := k })
    (hs : subscripted slice false (.bytes b t) (.ref s.heap.objs.size) = operate [.ref s.heap.objs.size, .bytes b t] (getItem (.bytes b t) (.ref s.heap.objs.size)) := by with_unfolding_all rfl)
    (ht : ∀ r, letTemporaryGo value (.bytes b t) r = pure () := by intro _; with_unfolding_all rfl) :
    wpAny (model prog w) A (subscriptTail value slice (.bytes b t) (.ref s.heap.objs.size)) Q E { s with heap := s.heap.push { cls := .type "slice", data := .fields #[.none, .none, .int (-1) u] } } :=
  tail_of_ItemOn ⟨"bytes", _, FB.slot_bytes_getitem.lookup, typeIs_bytes _ _ _, getItem_meets (typeIs_bytes _ _ _) (by decide) FB.slot_bytes_getitem FB.entry_bytes_getitem (FB.args_bytes_getitem_2 _ _) (meets_rev b t _ u)
    ⟨Heap.IsSliceOf.new _ _ _ _, by rw [sizeLine_eq]; exact hz, fun t' k => h _ _ _ (hF.push _) (News.pushKeep hN _)⟩⟩ hs ht
end
end Mine
end
theorem Mine.walk_off_NU : True := by
  w_top off
  exact True.intro
section
open PySem PySem.W PyProof.Rows
set_option Elab.async false
set_option maxRecDepth 100000
set_option maxHeartbeats 8000000
namespace Mine
theorem off1_ne {D : Addr} {l : List (Addr × Obj)} (h : LCg.Off1 D l) {p : Addr × Obj} (hp : p ∈ l) : p.1 ≠ D := by
  induction hp with
  | head => exact h.1
  | tail _ _ ih => exact ih h.2
theorem paired_ints_ofA {α : Type} {f : α → Int} : ∀ {l : List α} {ys : List Value}, Paired (fun c y => ∃ u, y = Value.int (f c) u) l ys → IntsAre ys (l.map f)
  | [], _, .nil => .nil
  | c :: l, _, .cons h r => by
    obtain ⟨u, rfl⟩ := h
    exact .cons _ u (paired_ints_ofA r)
theorem c_number {w : World} {p : Program} {loose : List Str} {mean : ExcName → Option Value} {mg mb : Str → Option Value}
  {dp un : Nat} {gd : Option (List Code)} {cn : Str} {cs : Scope} {a : Addr} {ccd : Value} {cl : List (Str × Addr)} {outer : List Env} {A₀ : Around} {base h₀ : Heap} {L : Addr} {m : Str → Option Value} {news : List (Addr × Obj)} {s : Shared} {Q E : Value → Shared → Prop}
  (B : Below A₀ base outer h₀) (F : Fr h₀ L s.heap m) (X : (hd.heap_39 w.params).In h₀) (N : News h₀ L s.heap news) (T : Top p loose mean mg mb h₀) (hk : cs.kind = .function)
  (hdp : dp + 70 < recursionLimit) (hu : un + 8000 < cLine)
  {tab : List (Addr × Obj)} (hC : CodeHd h₀ 51 47) (hT : Tab tab) (N9 : News h₀ L s.heap (tab ++ news)) (h47 : ∀ p ∈ news, p.1 ≠ 47) (hoff : Off2 tab news) {x : List UInt8} {t1 : Tok} (hb : ∀ c ∈ x, 65 ≤ c.toNat ∧ c.toNat < 81) (hl : x.length ≤ 40)
  (hret : ∀ t tab' h' tk', Tab tab' → Off2 tab' news → Fr h₀ L h' m → News h₀ L h' (tab' ++ news) → Q (.int (numOf (x.reverse.map (fun c => (c.toNat : Int) - 65))) t) { s with heap := h', toks := tk' }) :
  wpAny (model PySem.Challenge.rw_xi0006_01.row.prog w) (ktrTop dp un gd cn cs L a ccd cl outer) (call (.ref 137) [.bytes x.toArray t1]) Q E s := by
  clear N
  have N := N9
  clear N9
  k_with_none
  revert X; k_fill; intro X
  refine wpAny_call ?_
  k_dflt cell_enter
  (k_with "eval ListComp" => k_dflt ((refine' ListComp_W (cl := []) ?F ?c1 ?c2 ?c3 ?c4 ?c5 ?_ ?c6); (case F => k_asm); (case c1 => with_unfolding_all rfl); (case c2 => decide); (case c3 => rfl); (case c4 => decide); (case c5 => rfl); (case c6 => (intro _; rfl))))
  (k_with "subscriptTail" => ((with_reducible rename Fr _ _ _ _ => F9); (with_reducible rename News _ _ _ _ => N8); k_dflt (refine brev (s := ⟨_, _, _, _, _⟩) F9 N8 ?_ ?_); (try (simp; omega)); (try intro h9 t9 k9 F9 N9)))
  k_steps
  refine' SrcW.bytes rfl (by assumption) (by assumption) ?z (fun g => ?_)
  case z => (rw [sizeLine_eq]; simp; omega)
  refine comp_rest (α := UInt8) x.reverse (fun c v => ∃ u, v = .int (c.toNat : Int) u) (fun c y => ∃ u, y = .int ((c.toNat : Int) - 65) u) ?_ ?_ ?_
  · rintro i v hi ⟨c, u, hc, rfl⟩
    exact ⟨c, by simpa using hc, u, rfl⟩
  · rintro c v I oI C oC D m₂ ys h tk E' hc ⟨u, rfl⟩ hC hx F' N' off ne
    k_steps
    k_dflt (refine LCg.CompEnd.intro (by assumption) (by assumption) (tab ++ news) ?_ off trivial ⟨rfl, _, rfl⟩)
    exact fun _ h => h
  · intro ys hys D h tk F' N' ho
    (k_with "call ref" => refine Stop.mk ?_)
    k_steps
    refine Stop.out ?_
    have hys' := paired_ints_ofA hys
    have hin : ∀ n ∈ x.reverse.map (fun c : UInt8 => (c.toNat : Int) - 65), 0 ≤ n ∧ n < 16 := by
      intro n hn
      obtain ⟨c, hc, rfl⟩ := List.mem_map.mp hn
      have := hb c (List.mem_reverse.mp hc)
      omega
    have hD : D ≠ 47 := by
      cases hT with
      | fresh => exact fun e => off1_ne ho (.head _) e.symm
      | full _ _ _ _ _ _ _ => exact fun e => off1_ne ho (.tail _ (.head _)) e.symm
    k_dflt (refine' c_d2i (tab := tab) (news := (D, LCg.lst ys) :: news) (ns := x.reverse.map (fun c : UInt8 => (c.toNat : Int) - 65)) ?k1 ?k2 ?k3 ?k4 ?k5 ?kK ?kd ?ku ?hC hT ?N9 ?h47 ?hoff (hm := .head _) hys' hin ?hl ?ret; (case k1 => k_asm); (case k2 => k_asm); (case k3 => k_asm); (case k4 => exact (fun p hp => N' p (List.mem_cons.mpr ((List.mem_cons.mp hp).imp id (List.mem_append_right _))))); (case k5 => k_asm); (case kK => first | exact rfl | assumption); (case kd => ktr_room); (case ku => ktr_units); (case hC => exact CodeHd.keeps hC (Fr.keep (by assumption : Fr h₀ L _ m))); (case h47 => exact List.forall_mem_cons.mpr ⟨hD, h47⟩); (case hoff => exact fun q hq => List.forall_mem_cons.mpr ⟨fun e => off1_ne ho (List.mem_append_left _ hq) e.symm, hoff q hq⟩); (case hl => (rw [List.length_map, List.length_reverse]; exact hl)))
    case N9 =>
      intro p hp
      refine N' p ?_
      rcases List.mem_append.mp hp with h | h
      · exact .tail _ (List.mem_append_left _ h)
      · rcases List.mem_cons.mp h with rfl | h
        · exact .head _
        · exact .tail _ (List.mem_append_right _ h)
    case ret =>
      intro t tab' h' tk' hT' hO' F' N'
      k_steps
      k_dflt (refine' hret _ _ _ _ hT' (fun q hq p hp => hO' q hq p (.tail _ hp)) ?_ ?_)
      · assumption
      · intro p hp
        refine (by assumption : News h₀ L _ (tab' ++ _)) p ?_
        rcases List.mem_append.mp hp with h | h
        · exact List.mem_append_left _ h
        · exact List.mem_append_right _ (.tail _ h)
end Mine
end
theorem Mine.walk_off_TT : True := by
  w_top off
  exact True.intro
section
open PySem PySem.W PyProof.Rows PySem.Builtin.Str
set_option maxRecDepth 100000
namespace Mine
/-- the first place of a sign from a place on -/
theorem find3_at {x : Str} {c : Nat} {i : Nat} {A B : List Nat} (hx : x.cps.toList = A ++ c :: B) (hi : i ≤ A.length) (hn : ∀ v, i ≤ v → v < A.length → A[v]? ≠ some c) : Txt.find3 x ⟨#[c]⟩ i = (A.length : Int) := by
  have hlen : x.length = A.length + (B.length + 1) := by
    have := congrArg List.length hx
    simpa [Str.length] using this
  have hf : fromIndex x.length (i : Int) = i := by
    unfold fromIndex
    rw [if_neg (by omega)]; omega
  have hA : x.cps.getD A.length 0 = c := StrLaws.getD_of_getElem? (by rw [hx]; simp)
  rcases StrLaws.find3_spec x c i with ⟨_, h⟩ | ⟨k, hk, hlo, hlt, hc, hno⟩
  · exact absurd hA (h A.length (by rw [hf]; exact hi) (by omega))
  · rw [hk]
    rw [hf] at hlo hno
    have h1 : ¬ k < A.length := fun hlt' => by
      have := StrLaws.getElem?_of_getD hlt hc
      rw [hx, List.getElem?_append_left hlt'] at this
      exact hn k hlo hlt' this
    have h2 : ¬ A.length < k := fun h => hno A.length hi h hA
    omega
theorem find3_no {x : Str} {c : Nat} {i : Nat} (hn : ∀ v, i ≤ v → x.cps.toList[v]? ≠ some c) (hi : i ≤ x.length) : Txt.find3 x ⟨#[c]⟩ i = -1 := by
  have hf : fromIndex x.length (i : Int) = i := by
    unfold fromIndex
    rw [if_neg (by omega)]; omega
  rcases StrLaws.find3_spec x c i with ⟨h, _⟩ | ⟨k, hk, hlo, hlt, hc, hno⟩
  · exact h
  · rw [hf] at hlo
    exact absurd (StrLaws.getElem?_of_getD hlt hc) (hn k hlo)
theorem find_at {x : Str} {c : Nat} {A B : List Nat} (hx : x.cps.toList = A ++ c :: B) (hn : c ∉ A) : Txt.find x ⟨#[c]⟩ = (A.length : Int) := by
  rw [find_is_find3]
  exact find3_at (i := 0) hx (Nat.zero_le _) fun v _ _ e => hn (List.mem_of_getElem? e)
theorem find_no {x : Str} {c : Nat} (hn : c ∉ x.cps.toList) : Txt.find x ⟨#[c]⟩ = -1 := by
  rw [find_is_find3]
  exact find3_no (i := 0) (fun v _ e => hn (List.mem_of_getElem? e)) (Nat.zero_le _)
theorem bounds1 (x : Str) (h : ¬ Txt.find x ⟨#[40]⟩ < 0) (h2 : ¬ Txt.find3 x ⟨#[41]⟩ (Txt.find x ⟨#[40]⟩ + 1) < 0) :
    0 ≤ Txt.find x ⟨#[40]⟩ ∧ Txt.find x ⟨#[40]⟩ + 1 ≤ Txt.find3 x ⟨#[41]⟩ (Txt.find x ⟨#[40]⟩ + 1) ∧ Txt.find3 x ⟨#[41]⟩ (Txt.find x ⟨#[40]⟩ + 1) < x.length := by
  rcases StrLaws.find3_spec x 41 (Txt.find x ⟨#[40]⟩ + 1) with ⟨h3, _⟩ | ⟨k, hk, hlo, hlt, _, _⟩
  · rw [h3] at h2; exact absurd (by decide) h2
  · rw [hk]
    unfold fromIndex at hlo
    rw [if_neg (by omega)] at hlo
    omega
/-- the parts between the signs -/
theorem join_inj {c : Nat} : ∀ {ps qs : List Str}, ps ≠ [] → qs ≠ [] → (∀ p ∈ ps, c ∉ p.cps.toList) → (∀ p ∈ qs, c ∉ p.cps.toList) → (Str.join ⟨#[c]⟩ ps).cps.toList = (Str.join ⟨#[c]⟩ qs).cps.toList → ps = qs := by
  have key : ∀ (a b r s : List Nat), c ∉ a → c ∉ b → a ++ c :: r = b ++ c :: s → a = b ∧ r = s := by
    intro a
    induction a with
    | nil => intro b r s _ hb e
             cases b with
             | nil => simpa using e
             | cons y b => simp at e; exact absurd (by rw [e.1]; exact .head _) hb
    | cons y a ih => intro b r s ha hb e
                     cases b with
                     | nil => simp at e; exact absurd (by rw [e.1]; exact .head _) ha
                     | cons z b =>
                       simp only [List.cons_append, List.cons.injEq] at e
                       have := ih b r s (fun h => ha (.tail _ h)) (fun h => hb (.tail _ h)) e.2
                       exact ⟨by rw [e.1, this.1], this.2⟩
  have jc : ∀ (x y : Str) (r : List Str), (Str.join ⟨#[c]⟩ (x :: y :: r)).cps.toList = x.cps.toList ++ c :: (Str.join ⟨#[c]⟩ (y :: r)).cps.toList := by
    intro x y r
    show (x ++ ⟨#[c]⟩ ++ Str.join ⟨#[c]⟩ (y :: r)).cps.toList = _
    show (x.cps ++ #[c] ++ (Str.join ⟨#[c]⟩ (y :: r)).cps).toList = _
    simp
  have sx : ∀ (x y : Str), x.cps.toList = y.cps.toList → x = y := by
    intro x y h
    obtain ⟨⟨a⟩⟩ := x
    obtain ⟨⟨b⟩⟩ := y
    have h' : a = b := h
    rw [h']
  intro ps
  induction ps with
  | nil => intro qs h; exact absurd rfl h
  | cons x ps ih =>
    intro qs _ hq h1 h2 e
    cases qs with
    | nil => exact absurd rfl hq
    | cons y qs =>
      cases ps with
      | nil =>
        cases qs with
        | nil => rw [sx x y e]
        | cons z qs =>
          have e' : x.cps.toList = (Str.join ⟨#[c]⟩ (y :: z :: qs)).cps.toList := e
          rw [jc] at e'
          exact absurd (by rw [e']; simp) (h1 x (.head _))
      | cons w ps =>
        cases qs with
        | nil =>
          have e' : (Str.join ⟨#[c]⟩ (x :: w :: ps)).cps.toList = y.cps.toList := e
          rw [jc] at e'
          exact absurd (by rw [← e']; simp) (h2 y (.head _))
        | cons z qs =>
          rw [jc, jc] at e
          obtain ⟨e1, e2⟩ := key _ _ _ _ (h1 x (.head _)) (h2 y (.head _)) e
          rw [sx x y e1, ih (by simp) (by simp) (fun p hp => h1 p (.tail _ hp)) (fun p hp => h2 p (.tail _ hp)) e2]
theorem split_is {x : Str} {c : Nat} {qs : List Str} (hq : qs ≠ []) (h : ∀ p ∈ qs, c ∉ p.cps.toList) (e : x.cps.toList = (Str.join ⟨#[c]⟩ qs).cps.toList) : Txt.split x ⟨#[c]⟩ = qs := by
  refine join_inj (c := c) ?_ hq (StrLaws.split_free x c) h ?_
  · intro h0
    have := split_pos x ⟨#[c]⟩
    rw [h0] at this
    exact absurd this (by decide)
  · rw [StrLaws.join_split, e]
end Mine
end
theorem Mine.walk_off_EX : True := by
  w_top off
  exact True.intro
section
open PySem PySem.W PyProof.Rows PyProof.V PySem.Spec PySem.Calls
set_option maxRecDepth 100000
namespace Mine
open Builtin Builtin.Str Builtin.BaseException Builtin.Exceptions
section
variable {prog : Program} {w : World} {A : Around} {E : Value → Shared → Prop} {s : Shared} {e t C : Addr} {oe : Obj} {ws : Array Value} {m : Str} {tk : Tok} {K : Frag}
theorem own_args {M : Model} {items : List Value} {Q : Value × List Value → Shared → Prop} (ho : s.heap.get? e = some oe) (hd : oe.data = .fields ws) (h0 : ws[0]? = some (.ref t)) (ht : s.heap.TupAt t items) (hq : Q (.ref t, items) s) :
    wpAny M A (bexcArgs (.ref e)) Q E s := by
  obtain ⟨ot, k, hto, _, htd⟩ := ht
  unfold bexcArgs
  refine wpAny_bind (wpAny_field ho hd h0 (wpAny_bind (wpAny_seqItems hto htd ?_)))
  have : items.toArray.toList = items := by simp
  show wpAny M A (pure (Value.ref t, items.toArray.toList)) Q E s
  rw [this]; exact wpAny_pure hq
theorem own_entry {Q : Fin → Shared → Prop} (ho : s.heap.get? e = some oe) (hd : oe.data = .fields ws) (h0 : ws[0]? = some (.ref t)) (ht : s.heap.TupAt t [.str m tk]) (hq : Q (.done (.ret (.str m tk))) s) :
    wpAny (model prog w) A (Builtin.«BaseException.__str__» ⟨[.ref e], []⟩) Q E s := by
  unfold Builtin.«BaseException.__str__»
  repeat (first | with_reducible refine own_args ho hd h0 ht ?_ | wp_step)
  exact hq
theorem own_check {M : Model} {Q : Unit → Shared → Prop} (X : K.In s.heap) (ho : s.heap.get? e = some oe) (hc : oe.cls = .ref C) (hm : mroIn K C (.type "BaseException") = some true) (hq : Q () s) :
    wpAny M A (checkBuiltinCall "BaseException.__str__" ⟨[.ref e], []⟩) Q E s := by
  have hk : builtinKind "BaseException.__str__" = some .slot := by kernel_rfl
  have hsplit : splitId "BaseException.__str__" = some ("BaseException", "__str__") := by kernel_rfl
  have ha := PySem.F.args_bexc_str (.ref e)
  simp only [checkBuiltinCall, hk, hsplit]
  refine wpAny_bind ?_
  unfold isInstance
  refine wpAny_bind (wpAny_typeOf_ref ho ?_)
  rw [hc]
  refine (looks_mroIn X hm).here ?_
  simp only [Bool.not_true, Bool.false_eq_true, if_false]
  cases hsig : Manifest.signature? "BaseException.__str__" with
  | none => exact wpAny_pure hq
  | some sig =>
    simp only [argsOk, hsig] at ha
    have h2 : Bind.checkArgs "BaseException.__str__" sig ⟨[.ref e], []⟩ = pure () := ha
    show wpAny M A (Bind.checkArgs "BaseException.__str__" sig ⟨[.ref e], []⟩) Q E s
    rw [h2]; exact wpAny_pure hq
theorem own_call {Q : Value → Shared → Prop} (X : K.In s.heap) (ho : s.heap.get? e = some oe) (hc : oe.cls = .ref C) (hm : mroIn K C (.type "BaseException") = some true) (hd : oe.data = .fields ws) (h0 : ws[0]? = some (.ref t)) (ht : s.heap.TupAt t [.str m tk]) (hq : Q (.str m tk) s) :
    wpAny (model prog w) A (call (.builtin "BaseException.__str__") [.ref e]) Q E s := by
  refine wpAny_call (codeAny_call_builtin PySem.F.excStr_Exception.str.plain PySem.F.entry_bexc_str (own_check X ho hc hm (own_entry ho hd h0 ht ?_)))
  exact hq
theorem own_strOf {Q : Value → Shared → Prop} (hu : A.units < cLine) (X : K.In s.heap) (ho : s.heap.get? e = some oe) (hc : oe.cls = .ref C) (hm : mroIn K C (.type "BaseException") = some true) (hs : findIn K (.ref C) "__str__" = some (some (.builtin "BaseException.__str__")))
    (hd : oe.data = .fields ws) (h0 : ws[0]? = some (.ref t)) (ht : s.heap.TupAt t [.str m tk]) (hq : Q (.str m tk) s) : wpAny (model prog w) A (PySem.Builtin.Str.strOf (.ref e)) Q E s := by
  unfold PySem.Builtin.Str.strOf
  rw [show isExactStr (.ref e) = false from rfl]
  refine wpAny_bind (m := cRoomFor _ _) (wpAny_cRoomFor hu ?_)
  refine wpAny_bind (m := callSpecial? (.ref e) (Str.ofString "__str__")) ?_
  unfold callSpecial? specialOf
  refine wpAny_bind (wpAny_bind (wpAny_typeOf_ref ho ?_))
  rw [hc]
  refine (looks_findIn X hs).here ?_
  simp only [PySem.F.excStr_Exception.str.bind]
  refine wpAny_holding (wpAny_bind (wpAny_pure (wpAny_bind (wpAny_mono (own_call X ho hc hm hd h0 ht (Q := fun v s' => v = .str m tk ∧ Q (.str m tk) s') ⟨rfl, hq⟩) (fun v s' h' => ?_) fun _ _ h' => h'))))
  obtain ⟨rfl, hq'⟩ := h'
  exact wpAny_pure (wpAny_pure hq')
theorem own_str {Q : Value → Shared → Prop} (hu : A.in1.in1.units < cLine) (X : K.In s.heap) (ho : s.heap.get? e = some oe) (hc : oe.cls = .ref C) (hm : mroIn K C (.type "BaseException") = some true) (hs : findIn K (.ref C) "__str__" = some (some (.builtin "BaseException.__str__")))
    (hd : oe.data = .fields ws) (h0 : ws[0]? = some (.ref t)) (ht : s.heap.TupAt t [.str m tk]) (hq : Q (.str m tk) s) : wpAny (model prog w) A (call (.type "str") [.ref e]) Q E s := by
  refine callType_codes (T := "str") (Bi := Builtin.«object.__init__») (Q₁ := fun r s₁ => ∃ y u, r = .str y u ∧ Q r s₁) PySem.F.called_str (PySem.F.typeCall_str_1 _) PySem.F.entry_object_init ?_ ?_
  · refine codeAny_of_tree ?_
    show wpAny _ A.in1.in1 (do checkBuiltinCall "str.__new__" ⟨[.type "str", .ref e], []⟩; again (.builtin "str.__new__" ⟨[.type "str", .ref e], []⟩)) _ _ s
    refine wpAny_bind (wpAny_of_eq (PySem.F.newCall_str_1 _) (wpAny_pure ⟨plainId_quiet (by decide +kernel) _, codeAny_builtin PySem.F.entry_str_new ?_⟩))
    rw [Around.under_plainId (by decide +kernel) _]
    rw [str_new_tree]
    refine wpAny_bind (wpAny_pure ?_)
    refine wpAny_bind (wpAny_of_eq isSubtype_str_str ?_)
    refine wpAny_bind (wpAny_mono (own_strOf hu X ho hc hm hs hd h0 ht (Q := fun r s₁ => ∃ y u, r = .str y u ∧ Q r s₁) ⟨_, _, rfl, hq⟩) (fun r s₁ hr => wpAny_pure hr) fun _ _ y => y)
  · rintro obj s₁ ⟨y, u, rfl, hq⟩
    exact ⟨typeIs_str _ _ _, PySem.F.args_object_init_2 _ _, object_init_meets PySem.F.called_str.init.lookup PySem.F.called_str.made (by decide) prog w A.in1 _ s₁ ⟨typeIs_str _ _ _, rfl, hq⟩⟩
theorem str_got {Q : Value → Shared → Prop} {g : Heap} {L : Addr} {news : List (Addr × Obj)} (hu : A.in1.in1.units < cLine) (X : K.In g) (hk : ∀ b o, g.get? b = some o → s.heap.get? b = some o) (N : News g L s.heap news) (G : Got news e t (.ref C) [.str m tk]) (hm : mroIn K C (.type "BaseException") = some true) (hs : findIn K (.ref C) "__str__" = some (some (.builtin "BaseException.__str__")))
    (hq : Q (.str m tk) s) : wpAny (model prog w) A (call (.type "str") [.ref e]) Q E s := by
  obtain ⟨o1, o2, ws, nt, h1, h2, hc, hd, h0, hc2, hd2⟩ := G
  exact own_str hu (X.keeps hk) (N _ h1).1 hc hm hs hd h0 ⟨o2, nt, (N _ h2).1, hc2, hd2⟩ hq
end
end Mine
end
theorem Mine.walk_off_RD : True := by
  w_top off
  exact True.intro
section
open PySem PySem.W PyProof.Rows
set_option Elab.async false
set_option maxRecDepth 100000
set_option maxHeartbeats 8000000
namespace Mine

/-- what is read of a reply: another code, a fault in its form, or a port -/
inductive Out where
  | reply | proto | port (n : Int)
noncomputable abbrev lft (x : Str) : Int := Txt.find x (Str.ofString "(")
noncomputable abbrev rgt (x : Str) : Int := Txt.find3 x (Str.ofString ")") (lft x + 1)
noncomputable abbrev prt (x : Str) : List Str := Txt.split (Txt.slice x (some (lft x + 1)) (some (rgt x))) (Txt.item x (lft x + 1))
noncomputable def r229 (x : Str) : Option Out :=
  if (Txt.slice x none (some 3) != Str.ofString "229") = true then some .reply
  else if lft x < 0 then some .proto
  else if rgt x < 0 then some .proto
  else if (Txt.item x (lft x + 1) != Txt.item x (rgt x - 1)) = true then some .proto
  else if (prt x).length ≠ 5 then some .proto
  else match PySem.intText? ((prt x).getD 3 Str.empty) with
    | some n => if ((prt x).getD 3 Str.empty).length ≤ 640 then some (.port n) else none
    | none => none
section
variable {x : Str}
theorem r1 (h : (Txt.slice x none (some 3) != Str.ofString "229") = true) : r229 x = some .reply := if_pos h
theorem r2 (h : (Txt.slice x none (some 3) != Str.ofString "229") = false) (h2 : lft x < 0) : r229 x = some .proto := by
  unfold r229; rw [if_neg (by rw [h]; exact Bool.false_ne_true), if_pos h2]
theorem r3 (h : (Txt.slice x none (some 3) != Str.ofString "229") = false) (h2 : ¬ lft x < 0) (h3 : rgt x < 0) : r229 x = some .proto := by
  unfold r229; rw [if_neg (by rw [h]; exact Bool.false_ne_true), if_neg h2, if_pos h3]
theorem r4 (h : (Txt.slice x none (some 3) != Str.ofString "229") = false) (h2 : ¬ lft x < 0) (h3 : ¬ rgt x < 0) (h4 : (Txt.item x (lft x + 1) != Txt.item x (rgt x - 1)) = true) : r229 x = some .proto := by
  unfold r229; rw [if_neg (by rw [h]; exact Bool.false_ne_true), if_neg h2, if_neg h3, if_pos h4]
theorem r5 (h : (Txt.slice x none (some 3) != Str.ofString "229") = false) (h2 : ¬ lft x < 0) (h3 : ¬ rgt x < 0) (h4 : (Txt.item x (lft x + 1) != Txt.item x (rgt x - 1)) = false) {l : List (Str × Tok)} (hl : l.map (fun p => p.1) = prt x) (h5 : (l.length : Int) ≠ 5) : r229 x = some .proto := by
  have : (prt x).length ≠ 5 := by rw [← hl, List.length_map]; omega
  unfold r229; rw [if_neg (by rw [h]; exact Bool.false_ne_true), if_neg h2, if_neg h3, if_neg (by rw [h4]; exact Bool.false_ne_true), if_pos this]
theorem r6 (h : (Txt.slice x none (some 3) != Str.ofString "229") = false) (h2 : ¬ lft x < 0) (h3 : ¬ rgt x < 0) (h4 : (Txt.item x (lft x + 1) != Txt.item x (rgt x - 1)) = false) {l : List (Str × Tok)} (hl : l.map (fun p => p.1) = prt x) (h5 : (l.length : Int) = 5) {o : Out} (ho : r229 x = some o) :
    ∃ n, o = .port n ∧ PySem.intText? ((l.map (fun p => p.1)).getD 3 Str.empty) = some n ∧ ((l.map (fun p => p.1)).getD 3 Str.empty).length ≤ 640 := by
  have h6 : ¬ (prt x).length ≠ 5 := by rw [← hl, List.length_map]; omega
  unfold r229 at ho
  rw [if_neg (by rw [h]; exact Bool.false_ne_true), if_neg h2, if_neg h3, if_neg (by rw [h4]; exact Bool.false_ne_true), if_neg h6, ← hl] at ho
  split at ho
  · rename_i n hn
    split at ho
    · rename_i hle
      exact ⟨n, (Option.some.inj ho).symm, hn, hle⟩
    · cases ho
  · cases ho
end
theorem drop2 {h₀ h : Heap} {L a : Addr} {o o' : Obj} {x : Addr × Obj} {news : List (Addr × Obj)} (N : News h₀ L h ((a, o) :: x :: news)) (e : o = o') : News h₀ L h ((a, o') :: news) := by
  subst e
  intro p hp
  rcases List.mem_cons.mp hp with rfl | hp
  · exact N _ (.head _)
  · exact N _ (.tail _ (.tail _ hp))
theorem num3 {l : List Str} {y : Str} {n : Int} (h : l[Int.toNat 3]? = some y) (e : PySem.intText? (l.getD 3 Str.empty) = some n) : PySem.intText? y = some n := by
  have : l.getD 3 Str.empty = y := by rw [List.getD_eq_getElem?_getD, show l[3]? = some y from h]; rfl
  rw [← this]; exact e
theorem len3 {l : List Str} {y : Str} (h : l[Int.toNat 3]? = some y) (e : (l.getD 3 Str.empty).length ≤ 640) : y.length ≤ 640 := by
  have : l.getD 3 Str.empty = y := by rw [List.getD_eq_getElem?_getD, show l[3]? = some y from h]; rfl
  rw [← this]; exact e
noncomputable def outObj (pv : Value) (x : Str) (t1 : Tok) : Out → Tok → Obj
  | .reply, tk => listOf #[.str (Str.ofString "reply") tk, .str x t1] 0
  | .proto, tk => listOf #[.str (Str.ofString "proto") tk, .str x t1] 0
  | .port n, tk => { cls := .type "tuple", data := .seq #[pv, .int n tk] }
theorem fits_of {i : Int} (h1 : -1000000 ≤ i) (h2 : i ≤ 1000000) : fitsSsize i = true := by
  unfold fitsSsize
  have e1 : decide (i < -(2 ^ 63 : Int)) = false := decide_eq_false (by omega)
  have e2 : decide (i ≥ (2 ^ 63 : Int)) = false := decide_eq_false (by omega)
  rw [e1, e2]; rfl
theorem find_bounds (x : Str) (h : ¬ lft x < 0) (h2 : ¬ rgt x < 0) : 0 ≤ Txt.find x (Str.ofString "(") ∧ Txt.find x (Str.ofString "(") + 1 ≤ Txt.find3 x (Str.ofString ")") (Txt.find x (Str.ofString "(") + 1) ∧ Txt.find3 x (Str.ofString ")") (Txt.find x (Str.ofString "(") + 1) < x.length := bounds1 x h h2
theorem c_read {w : World} {p : Program} {loose : List Str} {mean : ExcName → Option Value} {mg mb : Str → Option Value}
  {dp un : Nat} {gd : Option (List Code)} {cn : Str} {cs : Scope} {a : Addr} {ccd : Value} {A₀ : Around} {h₀ : Heap} {L : Addr} {m : Str → Option Value} {news : List (Addr × Obj)} {s : Shared} {Q E : Value → Shared → Prop}
  (B : Below A₀ h₀ [] h₀) (F : Fr h₀ L s.heap m) (X : (hd.heap_39 w.params).In h₀) (N : News h₀ L s.heap news) (T : Top p loose mean mg mb h₀) (hk : cs.kind = .function)
  (hdp : dp + 20 < recursionLimit) (hu : un + 2000 < cLine)
  {x : Str} {t1 : Tok} {pa : Addr} {pv pw : Value} {out : Out} (hp : (pa, ({ cls := .type "tuple", data := .seq #[pv, pw] } : Obj)) ∈ news) (hx : x.length ≤ 1000) (hr : r229 x = some out)
  (hret : ∀ a tk h' tk', Fr h₀ L h' m → News h₀ L h' ((a, outObj pv x t1 out tk) :: news) → (∀ p ∈ news, p.1 < a) → Q (.ref a) { s with heap := h', toks := tk' }) :
  wpAny (model PySem.Challenge.rw_xi0006_01.row.prog w) (ktrTop dp un gd cn cs L a ccd [] []) (call (.ref 144) [.str x t1, .ref pa]) Q E s := by
  k_with_none
  revert X; k_fill; intro X
  refine wpAny_call ?_
  k_dflt (refine' code_defS0 ?k1 ?k2 ?k3 ?k4 ?k5 ?kA ?k6 ?k7 ?k8 ?k9 ?kB ?_ ?cK ?c2 ?c3 ?c4 ?c5; (case kA => exact rfl); (case k2 => k_asm); (case k1 => k_asm); (case k3 => k_asm); (case k4 => k_asm); (case k5 => k_asm); (case k6 => k_is); (case k7 => k_is); (case k8 => ktr_room); (case k9 => exact BindsTo.of_eq rfl); (case kB => exact locs rfl); (case cK => exact hk); (case c2 => exact rfl); (case c3 => exact rfl); (case c4 => exact rfl); (case c5 => decide); k_whole; intro g' L' h' FG' F' N' B' X' T' D'; (try dsimp only); (try k_lift B'); (try k_fold))
  (k_with "call ref" => (refine wpAny_call ?_; k_dflt (refine' code_def ?k1 ?k2 ?k3 ?k4 ?k5 ?kA ?kF ?kK ?k6 ?k7 ?k8 ?k9 ?kB ?_ ?c2 ?c3 ?c4 ?c5; (case kA => exact rfl); (case kF => exact rfl); (case kK => exact rfl); (case k1 => k_asm); (case k2 => k_asm); (case k3 => k_asm); (case k4 => k_asm); (case k5 => k_asm); (case k6 => k_is); (case k7 => k_is); (case k8 => ktr_room); (case k9 => exact BindsTo.of_eq rfl); (case c5 => decide); (case kB => exact locs rfl); (case c2 => exact rfl); (case c3 => exact rfl); (case c4 => exact rfl); k_whole; intro g' L' h' FG' F' N' B' X' T'; (try dsimp only); (try k_lift B'); (try k_fold))))
  (k_with "call type:str" => ((with_reducible rename Got _ _ _ _ _ => gX); k_dflt (refine' str_got ?u ?X ?k ?N gX ?hm ?hs ?_; (case u => ktr_units); (case X => k_asm); (case k => exact Fr.keep (by assumption)); (case N => assumption); (case hm => k_is); (case hs => k_is))))
  (k_with "subscriptTail Name BinOp" => refine Stop.mk ?_)
  k_steps
  · (have e9 := Option.some.inj (hr.symm.trans (r1 (by assumption))); subst e9; k_dflt (refine' hret ?a1 ?t1 ?h1 ?k1 ?F1 ?N1 ?l1; (case F1 => assumption); (case N1 => first | assumption | exact drop2 (by assumption) rfl); (case l1 => first | assumption | exact ktn_ltOf (And.right (by assumption)))))
  · (have e9 := Option.some.inj (hr.symm.trans (r2 (by assumption) (by assumption))); subst e9; k_dflt (refine' hret ?a2 ?t2 ?h2 ?k2 ?F2 ?N2 ?l2; (case F2 => assumption); (case N2 => first | assumption | exact drop2 (by assumption) rfl); (case l2 => first | assumption | exact ktn_ltOf (And.right (by assumption)))))
  · (have e9 := Option.some.inj (hr.symm.trans (r3 (by assumption) (by assumption) (by assumption))); subst e9; k_dflt (refine' hret ?a3 ?t3 ?h3 ?k3 ?F3 ?N3 ?l3; (case F3 => assumption); (case N3 => first | assumption | exact drop2 (by assumption) rfl); (case l3 => first | assumption | exact ktn_ltOf (And.right (by assumption)))))
  refine Stop.out ?_
  have hb := find_bounds x (by assumption) (by assumption)
  (k_with "subscriptTail Name BinOp" => k_dflt (refine' item_str (fits_of ?i0 ?i3) ?i1 ?i2 ?_; (case i0 => omega); (case i3 => omega); (case i1 => omega); (case i2 => omega)); intro _)
  (k_with "subscriptTail Name Constant" => (with_reducible show wpAny _ _ (subscriptTail _ _ (Value.ref pa) _) _ _ _; refine Stop.mk ?_))
  k_steps
  · (have e9 := Option.some.inj (hr.symm.trans (r4 (by assumption) (by assumption) (by assumption) (by assumption))); subst e9; k_dflt (refine' hret ?a4 ?t4 ?h4 ?k4 ?F4 ?N4 ?l4; (case F4 => assumption); (case N4 => first | assumption | exact drop2 (by assumption) rfl); (case l4 => first | assumption | exact ktn_ltOf (And.right (by assumption)))))
  · (have e9 := Option.some.inj (hr.symm.trans (r5 (by assumption) (by assumption) (by assumption) (by assumption) (by assumption) (by assumption))); subst e9; k_dflt (refine' hret ?a5 ?t5 ?h5 ?k5 ?F5 ?N5 ?l5; (case F5 => assumption); (case N5 => first | assumption | exact drop2 (by assumption) rfl); (case l5 => first | assumption | exact ktn_ltOf (And.right (by assumption)))))
  refine Stop.out ?_
  obtain ⟨n, rfl, hn1, hn2⟩ := r6 (by assumption) (by assumption) (by assumption) (by assumption) (by assumption) (by assumption) hr
  k_dflt (refine' item_tuple (j := 0) (x := pv) (items := #[pv, pw]) ⟨_, ((by assumption : News _ _ _ (_ :: news)) _ (.tail _ hp)).1, rfl, _, rfl⟩ ?_ ?_ ?_ ?_ ?_; decide; decide; rfl; rfl)
  (k_with "call type:int" => k_dflt (refine' KIN.call_text ?a ?b ?_; (case a => exact num3 (by assumption) hn1); (case b => exact len3 (by assumption) hn2)))
  k_steps
  k_dflt (refine' hret ?a6 ?t6 ?h6 ?k6 ?F6 ?N6 ?l6; (case F6 => assumption); (case N6 => first | assumption | exact drop2 (by assumption) rfl); (case l6 => first | assumption | exact ktn_ltOf (And.right (by assumption))))
end Mine
end
theorem Mine.walk_off_SR : True := by
  w_top off
  exact True.intro
section
open PySem PySem.Sre
set_option maxRecDepth 100000
namespace Mine
/-- the words that the machine reads -/
noncomputable def fc : Array Nat := #[14, 4, 0, 8, 4294967295, 24, 5, 0, 4294967295, 2, 1, 16, 70, 16, 76, 16, 65, 16, 71, 16, 83, 16, 32, 16, 40, 17, 0, 24, 6, 0, 4294967295, 20, 41, 1, 17, 1, 16, 41, 1]
noncomputable def stp : Nat → M → M
  | 0, m => m
  | n + 1, m => stp n m.step
theorem stp_add : ∀ (a b : Nat) (m : M), stp (a + b) m = stp b (stp a m)
  | 0, b, m => by rw [Nat.zero_add]; rfl
  | a + 1, b, m => by rw [Nat.add_right_comm]; exact stp_add a b m.step
theorem step_done {m : M} (h : m.outcome.isSome = true) : m.step = m := by
  unfold M.step; rw [if_pos h]
theorem stp_done : ∀ (n : Nat) {m : M}, m.outcome.isSome = true → stp n m = m
  | 0, _, _ => rfl
  | n + 1, m, h => by show stp n m.step = m; rw [step_done h]; exact stp_done n h
theorem runFor_eq : ∀ (n : Nat) (m : M), m.runFor n = stp n m
  | 0, m => rfl
  | n + 1, m => by
    show (if m.outcome.isSome then m else M.runFor n m.step) = stp n m.step
    cases h : m.outcome.isSome with
    | true => rw [if_pos rfl, step_done h, stp_done n h]
    | false => rw [if_neg Bool.false_ne_true]; exact runFor_eq n m.step
/-- a state of the machine on the way -/
noncomputable def mk (T : Array Nat) (pc pos hd : Nat) (μ : Array (Option Nat)) (lm li : Int) (fr : List Sre.Frame) (wt : Nat) (ans : Option Bool) (sn : Seen) : M :=
  { code := fc, text := T, lim := T.size, start := 0, pc, pos, handed := hd, marks := μ, lastmark := lm, lastindex := li, frames := fr, weight := wt, answer := ans, seen := sn }
section
variable {T : Array Nat} {pc pos hd : Nat} {μ : Array (Option Nat)} {lm li : Int} {fr : List Sre.Frame} {wt : Nat} {sn : Seen}
theorem exec_eq (h : pc < 39) : (mk T pc pos hd μ lm li fr wt none sn).step = (mk T pc pos hd μ lm li fr wt none sn).exec := by
  unfold M.step
  rw [if_neg (by exact Bool.false_ne_true)]
  show (if pc < fc.size then _ else _) = _
  rw [if_pos (show pc < fc.size from h)]
theorem lit_yes {c : Nat} (hpc : pc < 39) (h1 : ops[fc.getD pc 0]? = some .LITERAL) (h2 : fc.getD (pc + 1) 0 = c) (h3 : pos < T.size) (h4 : T.getD pos 0 = c) :
    ∃ sn', (mk T pc pos hd μ lm li fr wt none sn).step = mk T (pc + 2) (pos + 1) hd μ lm li fr wt none sn' := by
  rw [exec_eq hpc]
  have e0 : (mk T pc pos hd μ lm li fr wt none sn).word 0 = fc.getD pc 0 := rfl
  unfold M.exec
  simp only [e0, h1]
  have e1 : ¬ pos ≥ T.size := by omega
  simp only [mk, e1, if_false, accepts, h1, h2, h4, beq_self_eq_true, itemWidth]
  exact ⟨_, rfl⟩
theorem lit_no {c : Nat} (hpc : pc < 39) (h1 : ops[fc.getD pc 0]? = some .LITERAL) (h2 : fc.getD (pc + 1) 0 = c) (h4 : T.size ≤ pos ∨ T.getD pos 0 ≠ c) :
    ∃ sn', (mk T pc pos hd μ lm li fr wt none sn).step = mk T pc pos hd μ lm li fr wt (some false) sn' := by
  rw [exec_eq hpc]
  have e0 : (mk T pc pos hd μ lm li fr wt none sn).word 0 = fc.getD pc 0 := rfl
  unfold M.exec
  simp only [e0, h1]
  by_cases e1 : pos ≥ T.size
  · simp only [mk, e1, if_true, M.say]
    exact ⟨_, rfl⟩
  · have h5 : (T.getD pos 0 == c) = false := by
      rcases h4 with h | h
      · exact absurd h e1
      · simpa using h
    simp only [mk, e1, if_false, accepts, h1, h2, h5, M.say]
    exact ⟨_, rfl⟩
theorem mark_a : ∃ sn', (mk T 25 pos hd μ (-1) (-1) fr wt none sn).step = mk T 27 pos hd (μ.setIfInBounds 0 (some pos)) 0 (-1) fr wt none sn' := by
  rw [exec_eq (by decide)]
  have e0 : (mk T 25 pos hd μ (-1) (-1) fr wt none sn).word 0 = 17 := rfl
  have e1 : ops[17]? = some .MARK := rfl
  unfold M.exec
  simp only [e0, e1]
  exact ⟨_, rfl⟩
theorem mark_b : ∃ sn', (mk T 34 pos hd μ 0 (-1) fr wt none sn).step = mk T 36 pos hd (μ.setIfInBounds 1 (some pos)) 1 1 fr wt none sn' := by
  rw [exec_eq (by decide)]
  have e0 : (mk T 34 pos hd μ 0 (-1) fr wt none sn).word 0 = 17 := rfl
  have e1 : ops[17]? = some .MARK := rfl
  unfold M.exec
  simp only [e0, e1]
  have e2 : ∀ x : Seen, (mk T 34 pos hd μ 0 (-1) fr wt none x).mark 1 = mk T 36 pos hd (μ.setIfInBounds 1 (some pos)) 1 1 fr wt none x := by
    intro x
    unfold M.mark
    simp only [mk]
    rw [if_pos (by decide)]
    rfl
  exact ⟨_, e2 _⟩
theorem succ_ok : ∃ sn', (mk T 38 pos hd μ lm li fr wt none sn).step = mk T 38 pos pos μ lm li fr wt (some true) sn' := by
  rw [exec_eq (by decide)]
  have e0 : (mk T 38 pos hd μ lm li fr wt none sn).word 0 = 1 := rfl
  have e1 : ops[1]? = some .SUCCESS := rfl
  unfold M.exec
  simp only [e0, e1]
  exact ⟨_, rfl⟩
/-- how far a run goes -/
noncomputable def upTo (p : Nat → Bool) (T : Array Nat) : (n at_ : Nat) → Nat
  | 0, _ => 0
  | n + 1, i => if p (T.getD i 0) then upTo p T n (i + 1) + 1 else 0
theorem run_eq {i : Nat} {p : Nat → Bool} (h : ∀ c sn, accepts fc i c sn = .ok (p c, sn)) : ∀ (n at_ found : Nat) (sn : Seen), Sre.run fc T i n at_ found sn = .ok (found + upTo p T n at_, sn)
  | 0, _, _, _ => rfl
  | n + 1, a, f, sn => by
    unfold Sre.run upTo
    rw [h]
    show (if p (T.getD a 0) = true then Sre.run fc T i n (a + 1) (f + 1) sn else pure (f, sn)) = _
    cases hp : p (T.getD a 0) with
    | true =>
      rw [if_pos rfl, if_pos rfl, run_eq h n (a + 1) (f + 1) sn]
      congr 2; omega
    | false =>
      rw [if_neg Bool.false_ne_true, if_neg Bool.false_ne_true]
      rfl
/-- the frame that gives back, before the letters -/
noncomputable def fA (p : Nat) : Sre.Frame := { wait := .giveBack, pc := 5, pos := p, outermost := true, count := p, kept := { lastmark := -1, lastindex := -1, whole := false, marks := #[] } }
/-- and behind them -/
noncomputable def fB (q n : Nat) : Sre.Frame := { wait := .giveBack, pc := 27, pos := q, outermost := true, count := n, kept := { lastmark := 0, lastindex := -1, whole := false, marks := #[] } }
theorem any_ok (c : Nat) (sn : Seen) : accepts fc 9 c sn = .ok (c != 10, sn) := rfl
theorem not_ok (c : Nat) (sn : Seen) : accepts fc 31 c sn = .ok (c != 41, sn) := rfl
theorem after_eq {c : Int} {k : Sre.Kept} (hk : k.marks = #[]) (hw : wt < 16777216) : (mk T pc pos hd μ lm li fr wt none sn).afterRun .giveBack c k = mk T (pc + 1 + fc.getD (pc + 1) 0) pos pos μ lm li ({ wait := .giveBack, pc, pos, outermost := true, count := c, kept := k } :: fr) (wt + 1) none sn := by
  unfold M.afterRun M.attempt
  simp only [M.frame, mk, M.word, hk]
  rw [if_neg (by show ¬ (wt + 1 + 0 > 16777216); omega)]
  rfl
theorem rep_a (hT : T.size < 2 ^ 20) : ∃ sn', (mk T 5 0 hd μ (-1) (-1) [] 0 none sn).step = mk T 11 (upTo (· != 10) T T.size 0) (upTo (· != 10) T T.size 0) μ (-1) (-1) [fA (upTo (· != 10) T T.size 0)] 1 none sn' := by
  rw [exec_eq (by decide)]
  have e0 : (mk T 5 0 hd μ (-1) (-1) [] 0 none sn).word 0 = 24 := rfl
  have e1 : ops[24]? = some .REPEAT_ONE := rfl
  unfold M.exec
  simp only [e0, e1]
  have f2 : fc.getD (5 + 2) 0 = 0 := rfl
  have f3 : fc.getD (5 + 3) 0 = 4294967295 := rfl
  have f4 : fc.getD (5 + 4) 0 = 2 := rfl
  have e3 : ¬ (((0 : Nat) : Int) > (T.size : Int) - ((0 : Nat) : Int)) := by omega
  have e4 : min 4294967295 ((T.size : Int) - ((0 : Nat) : Int)).toNat = T.size := by omega
  simp only [mk, M.word, f2, f3, f4]
  rw [if_neg e3]
  simp only [Bool.false_eq_true, if_false, e4]
  rw [run_eq any_ok, Nat.zero_add]
  simp only [Nat.not_lt_zero, if_false]
  rw [Nat.zero_add]
  exact ⟨_, after_eq (T := T) (pc := 5) (pos := upTo (fun c => c != 10) T T.size 0) (hd := hd) (μ := μ) (lm := -1) (li := -1) (fr := []) (wt := 0) rfl (by decide)⟩
theorem rep_b {p : Nat} (hp : pos ≤ T.size) (hT : T.size < 2 ^ 20) : ∃ sn', (mk T 27 pos hd μ 0 (-1) [fA p] 1 none sn).step =
    mk T 34 (pos + upTo (· != 41) T (T.size - pos) pos) (pos + upTo (· != 41) T (T.size - pos) pos) μ 0 (-1) [fB (pos + upTo (· != 41) T (T.size - pos) pos) (upTo (· != 41) T (T.size - pos) pos), fA p] 2 none sn' := by
  rw [exec_eq (by decide)]
  have e0 : (mk T 27 pos hd μ 0 (-1) [fA p] 1 none sn).word 0 = 24 := rfl
  have e1 : ops[24]? = some .REPEAT_ONE := rfl
  unfold M.exec
  simp only [e0, e1]
  have f2 : fc.getD (27 + 2) 0 = 0 := rfl
  have f3 : fc.getD (27 + 3) 0 = 4294967295 := rfl
  have f4 : fc.getD (27 + 4) 0 = 20 := rfl
  have e3 : ¬ (((0 : Nat) : Int) > (T.size : Int) - (pos : Int)) := by omega
  have e4 : min 4294967295 ((T.size : Int) - (pos : Int)).toNat = T.size - pos := by omega
  simp only [mk, M.word, f2, f3, f4]
  rw [if_neg e3]
  simp only [Bool.false_eq_true, if_false, e4]
  rw [run_eq not_ok, Nat.zero_add]
  simp only [Nat.not_lt_zero, if_false]
  exact ⟨_, after_eq (T := T) (pc := 27) (pos := pos + upTo (fun c => c != 41) T (T.size - pos) pos) (hd := hd) (μ := μ) (lm := 0) (li := -1) (fr := [fA p]) (wt := 1) rfl (by decide)⟩
/-- giving one back, before the letters -/
theorem back_a {p : Nat} : ∃ sn', (mk T pc pos hd μ lm li [fA (p + 1)] 1 (some false) sn).step = mk T 11 p p μ (-1) (-1) [fA p] 1 none sn' := by
  unfold M.step
  rw [if_neg (by exact Bool.false_ne_true)]
  show ∃ sn', M.resume { mk T 5 (p + 1) hd μ lm li [] 0 none sn with answer := none } (fA (p + 1)) false = _
  unfold M.resume
  simp only [fA, mk, M.word, M.putBack, Bool.false_eq_true, if_false, show fc.getD (5 + 2) 0 = 0 from rfl]
  rw [if_neg (show ¬ (((p + 1 : Nat) : Int) - 1 < ((0 : Nat) : Int)) by omega)]
  refine ⟨sn, (after_eq (T := T) (pc := 5) (pos := p) (hd := hd) (μ := μ) (lm := -1) (li := -1) (fr := []) (wt := 0) (sn := sn) rfl (by decide)).trans ?_⟩
  show mk T 11 p p μ (-1) (-1) [{ wait := .giveBack, pc := 5, pos := p, outermost := true, count := ((p + 1 : Nat) : Int) - 1, kept := _ }] 1 none sn = _
  rw [show ((p + 1 : Nat) : Int) - 1 = (p : Int) by omega]
  rfl
theorem back_a0 : stp 2 (mk T pc pos hd μ lm li [fA 0] 1 (some false) sn) = { mk T 5 0 hd μ (-1) (-1) [] 0 (some false) sn with outcome := some .failed } := by
  have e0 : ∀ m, stp 2 m = m.step.step := fun _ => rfl
  rw [e0]
  have e : M.step (mk T pc pos hd μ lm li [fA 0] 1 (some false) sn) = mk T 5 0 hd μ (-1) (-1) [] 0 (some false) sn := by
    unfold M.step
    rw [if_neg (by exact Bool.false_ne_true)]
    rfl
  rw [e]
  rfl
theorem back_b {p q n : Nat} : ∃ sn', (mk T pc pos hd μ lm li [fB (q + 1) (n + 1), fA p] 2 (some false) sn).step = mk T 34 q q μ 0 (-1) [fB q n, fA p] 2 none sn' := by
  unfold M.step
  rw [if_neg (by exact Bool.false_ne_true)]
  show ∃ sn', M.resume { mk T 27 (q + 1) hd μ lm li [fA p] 1 none sn with answer := none } (fB (q + 1) (n + 1)) false = _
  unfold M.resume
  simp only [fB, mk, M.word, M.putBack, Bool.false_eq_true, if_false, show fc.getD (27 + 2) 0 = 0 from rfl]
  rw [if_neg (show ¬ (((n + 1 : Nat) : Int) - 1 < ((0 : Nat) : Int)) by omega)]
  refine ⟨sn, (after_eq (T := T) (pc := 27) (pos := q) (hd := hd) (μ := μ) (lm := 0) (li := -1) (fr := [fA p]) (wt := 1) (sn := sn) rfl (by decide)).trans ?_⟩
  show mk T 34 q q μ 0 (-1) [{ wait := .giveBack, pc := 27, pos := q, outermost := true, count := ((n + 1 : Nat) : Int) - 1, kept := _ }, fA p] 2 none sn = _
  rw [show ((n + 1 : Nat) : Int) - 1 = (n : Int) by omega]
  rfl
theorem back_b0 {p q : Nat} : (mk T pc pos hd μ lm li [fB q 0, fA p] 2 (some false) sn).step = mk T 27 q hd μ 0 (-1) [fA p] 1 (some false) sn := by
  unfold M.step
  rw [if_neg (by exact Bool.false_ne_true)]
  rfl
theorem won {p q n : Nat} : stp 3 (mk T pc pos hd μ lm li [fB q n, fA p] 2 (some true) sn) = { mk T 5 p hd μ lm li [] 0 (some true) sn with outcome := some .matched } := by
  have e1 : M.step (mk T pc pos hd μ lm li [fB q n, fA p] 2 (some true) sn) = mk T 27 q hd μ lm li [fA p] 1 (some true) sn := by
    unfold M.step
    rw [if_neg (by exact Bool.false_ne_true)]
    rfl
  have e2 : M.step (mk T 27 q hd μ lm li [fA p] 1 (some true) sn) = mk T 5 p hd μ lm li [] 0 (some true) sn := by
    unfold M.step
    rw [if_neg (by exact Bool.false_ne_true)]
    rfl
  have e0 : ∀ m, stp 3 m = m.step.step.step := fun _ => rfl
  rw [e0, e1, e2]
  rfl
end
end Mine
end
theorem Mine.walk_off_SS : True := by
  w_top off
  exact True.intro
section
open PySem PySem.Sre
set_option maxRecDepth 100000
namespace Mine
noncomputable def lit (j : Nat) : Nat := fc.getD (12 + 2 * j) 0
theorem lit_ops : ∀ j, j < 7 → ops[fc.getD (11 + 2 * j) 0]? = some .LITERAL := by
  intro j hj
  have : j = 0 ∨ j = 1 ∨ j = 2 ∨ j = 3 ∨ j = 4 ∨ j = 5 ∨ j = 6 := by omega
  rcases this with rfl | rfl | rfl | rfl | rfl | rfl | rfl <;> rfl
section
variable {T : Array Nat} {pc pos hd : Nat} {μ : Array (Option Nat)} {lm li : Int} {fr : List Sre.Frame} {wt : Nat} {sn : Seen}
noncomputable def okI (T : Array Nat) (p i : Nat) : Prop := p + i < T.size ∧ T.getD (p + i) 0 = lit i
theorem letters {p : Nat} : ∀ (d j : Nat) (sn : Seen), j + d = 7 → ∃ k, k ≤ 8 ∧
    (((∀ i, j ≤ i → i < 7 → okI T p i) ∧ ∃ sn', stp k (mk T (11 + 2 * j) (p + j) hd μ lm li fr wt none sn) = mk T 25 (p + 7) hd μ lm li fr wt none sn') ∨
     ((¬ ∀ i, j ≤ i → i < 7 → okI T p i) ∧ ∃ pc pos sn', stp k (mk T (11 + 2 * j) (p + j) hd μ lm li fr wt none sn) = mk T pc pos hd μ lm li fr wt (some false) sn')) ∧ k ≤ d + 1
  | 0, j, sn, h => by
    have : j = 7 := by omega
    subst this
    exact ⟨0, by omega, .inl ⟨fun i h1 h2 => by omega, sn, rfl⟩, by omega⟩
  | d + 1, j, sn, h => by
    have hj : j < 7 := by omega
    by_cases h0 : okI T p j
    · obtain ⟨sn1, e1⟩ := lit_yes (T := T) (pc := 11 + 2 * j) (pos := p + j) (hd := hd) (μ := μ) (lm := lm) (li := li) (fr := fr) (wt := wt) (sn := sn) (c := lit j) (by omega) (lit_ops j hj) (by unfold lit; rw [show 11 + 2 * j + 1 = 12 + 2 * j by omega]) h0.1 h0.2
      obtain ⟨k, hk, hr, hk2⟩ := letters d (j + 1) sn1 (by omega)
      refine ⟨k + 1, by omega, ?_, by omega⟩
      have e : stp (k + 1) (mk T (11 + 2 * j) (p + j) hd μ lm li fr wt none sn) = stp k (mk T (11 + 2 * (j + 1)) (p + (j + 1)) hd μ lm li fr wt none sn1) := by
        show stp k (M.step _) = _
        rw [e1, show 11 + 2 * j + 2 = 11 + 2 * (j + 1) by omega, Nat.add_assoc p j 1]
      rw [e]
      rcases hr with ⟨ha, hb⟩ | ⟨ha, hb⟩
      · refine .inl ⟨fun i h1 h2 => ?_, hb⟩
        by_cases hi : i = j
        · subst hi; exact h0
        · exact ha i (by omega) h2
      · exact .inr ⟨fun hall => ha fun i h1 h2 => hall i (by omega) h2, hb⟩
    · obtain ⟨sn1, e1⟩ := lit_no (T := T) (pc := 11 + 2 * j) (pos := p + j) (hd := hd) (μ := μ) (lm := lm) (li := li) (fr := fr) (wt := wt) (sn := sn) (c := lit j) (by omega) (lit_ops j hj) (by unfold lit; rw [show 11 + 2 * j + 1 = 12 + 2 * j by omega]) (by
        unfold okI at h0
        by_cases h1 : p + j < T.size
        · exact .inr fun h2 => h0 ⟨h1, h2⟩
        · exact .inl (by omega))
      exact ⟨1, by omega, .inr ⟨fun hall => h0 (hall j (Nat.le_refl _) hj), _, _, sn1, e1⟩, by omega⟩
theorem upTo_spec (f : Nat → Bool) : ∀ (n i : Nat), upTo f T n i ≤ n ∧ (∀ k, k < upTo f T n i → f (T.getD (i + k) 0) = true) ∧ (upTo f T n i < n → f (T.getD (i + upTo f T n i) 0) = false)
  | 0, i => ⟨Nat.le_refl _, fun k hk => absurd hk (Nat.not_lt_zero _), fun h => absurd h (Nat.lt_irrefl _)⟩
  | n + 1, i => by
    have ih := upTo_spec f n (i + 1)
    unfold upTo
    cases hf : f (T.getD i 0) with
    | false => exact ⟨by simp, fun k hk => by simp at hk, fun _ => by simpa using hf⟩
    | true =>
      rw [if_pos rfl]
      refine ⟨by omega, fun k hk => ?_, fun h => ?_⟩
      · cases k with
        | zero => exact hf
        | succ k => have := ih.2.1 k (by omega); rwa [show i + 1 + k = i + (k + 1) by omega] at this
      · have := ih.2.2 (by omega)
        rwa [show i + 1 + upTo f T n (i + 1) = i + (upTo f T n (i + 1) + 1) by omega] at this
/-- behind the letters: the closing sign stands here -/
theorem inner_win {p q n : Nat} {sn : Seen} (h1 : q < T.size) (h2 : T.getD q 0 = 41) : ∃ sn', stp 6 (mk T 34 q q μ 0 (-1) [fB q n, fA p] 2 none sn) = { mk T 5 p (q + 1) (μ.setIfInBounds 1 (some q)) 1 1 [] 0 (some true) sn' with outcome := some .matched } := by
  obtain ⟨s1, e1⟩ := mark_b (T := T) (pos := q) (hd := q) (μ := μ) (fr := [fB q n, fA p]) (wt := 2) (sn := sn)
  obtain ⟨s2, e2⟩ := lit_yes (T := T) (pc := 36) (pos := q) (hd := q) (μ := μ.setIfInBounds 1 (some q)) (lm := 1) (li := 1) (fr := [fB q n, fA p]) (wt := 2) (sn := s1) (c := 41) (by decide) rfl rfl h1 h2
  obtain ⟨s3, e3⟩ := succ_ok (T := T) (pos := q + 1) (hd := q) (μ := μ.setIfInBounds 1 (some q)) (lm := 1) (li := 1) (fr := [fB q n, fA p]) (wt := 2) (sn := s2)
  have e0 : ∀ m, stp 6 m = stp 3 m.step.step.step := fun _ => rfl
  rw [e0, e1, e2, e3]
  exact ⟨s3, won⟩
/-- it does not: one is given back, or all are -/
theorem inner_lose {p : Nat} : ∀ (n q : Nat) (μ : Array (Option Nat)) (sn : Seen), n ≤ q → (∀ i, i ≤ n → T.size ≤ q - i ∨ T.getD (q - i) 0 ≠ 41) → ∃ k pos hd μ' sn', k ≤ 3 * (n + 1) ∧ μ'.size = μ.size ∧ stp k (mk T 34 q q μ 0 (-1) [fB q n, fA p] 2 none sn) = mk T 27 pos hd μ' 0 (-1) [fA p] 1 (some false) sn'
  | 0, q, μ, sn, hq, h => by
    obtain ⟨s1, e1⟩ := mark_b (T := T) (pos := q) (hd := q) (μ := μ) (fr := [fB q 0, fA p]) (wt := 2) (sn := sn)
    obtain ⟨s2, e2⟩ := lit_no (T := T) (pc := 36) (pos := q) (hd := q) (μ := μ.setIfInBounds 1 (some q)) (lm := 1) (li := 1) (fr := [fB q 0, fA p]) (wt := 2) (sn := s1) (c := 41) (by decide) rfl rfl (h 0 (Nat.le_refl _))
    have e3 := back_b0 (T := T) (pc := 36) (pos := q) (hd := q) (μ := μ.setIfInBounds 1 (some q)) (lm := 1) (li := 1) (sn := s2) (p := p) (q := q)
    refine ⟨3, q, q, μ.setIfInBounds 1 (some q), s2, by omega, by simp, ?_⟩
    have e0 : ∀ m, stp 3 m = m.step.step.step := fun _ => rfl
    rw [e0, e1, e2, e3]
  | n + 1, q, μ, sn, hq, h => by
    obtain ⟨q, rfl⟩ : ∃ r, q = r + 1 := ⟨q - 1, by omega⟩
    obtain ⟨s1, e1⟩ := mark_b (T := T) (pos := q + 1) (hd := q + 1) (μ := μ) (fr := [fB (q + 1) (n + 1), fA p]) (wt := 2) (sn := sn)
    obtain ⟨s2, e2⟩ := lit_no (T := T) (pc := 36) (pos := q + 1) (hd := q + 1) (μ := μ.setIfInBounds 1 (some (q + 1))) (lm := 1) (li := 1) (fr := [fB (q + 1) (n + 1), fA p]) (wt := 2) (sn := s1) (c := 41) (by decide) rfl rfl (h 0 (by omega))
    obtain ⟨s3, e3⟩ := back_b (T := T) (pc := 36) (pos := q + 1) (hd := q + 1) (μ := μ.setIfInBounds 1 (some (q + 1))) (lm := 1) (li := 1) (sn := s2) (p := p) (q := q) (n := n)
    obtain ⟨k, pos, hd, μ', sn', hk, hm, e⟩ := inner_lose n q (μ.setIfInBounds 1 (some (q + 1))) s3 (by omega) fun i hi => by
      have := h (i + 1) (by omega)
      rwa [show q + 1 - (i + 1) = q - i by omega] at this
    refine ⟨k + 3, pos, hd, μ', sn', by omega, by rw [hm]; simp, ?_⟩
    have e0 : ∀ m, stp (k + 3) m = stp k m.step.step.step := fun _ => rfl
    rw [e0, e1, e2, e3, e]
noncomputable def okL (T : Array Nat) (p : Nat) : Prop := ∀ i, i < 7 → okI T p i
noncomputable def okM (T : Array Nat) (p : Nat) : Prop := okL T p ∧ ∃ q, p + 7 ≤ q ∧ q < T.size ∧ T.getD q 0 = 41
/-- what the machine ends with, from a place on downwards -/
noncomputable def Res (T : Array Nat) (p : Nat) (m : M) : Prop :=
  (∃ a q, a ≤ p ∧ okL T a ∧ a + 7 ≤ q ∧ q < T.size ∧ T.getD q 0 = 41 ∧ (∀ i, a + 7 ≤ i → i < q → T.getD i 0 ≠ 41) ∧ (∀ b, a < b → b ≤ p → ¬ okM T b) ∧
    m.outcome = some .matched ∧ m.marks = #[some (a + 7), some q] ∧ m.lastmark = 1 ∧ m.lastindex = 1 ∧ m.start = 0 ∧ m.handed = q + 1) ∨
  ((∀ b, b ≤ p → ¬ okM T b) ∧ m.outcome = some .failed)
theorem two_marks {μ : Array (Option Nat)} (h : μ.size = 2) (x y : Option Nat) : (μ.setIfInBounds 0 x).setIfInBounds 1 y = #[x, y] := by
  obtain ⟨l⟩ := μ
  match l, h with
  | [a, b], _ => rfl
theorem outer1 (hT : T.size < 2 ^ 20) (p : Nat) : ∀ (μ : Array (Option Nat)) (sn : Seen), μ.size = 2 → p ≤ T.size →
      (∃ k m, k ≤ 3 * T.size + 30 ∧ stp k (mk T 11 p p μ (-1) (-1) [fA p] 1 none sn) = m ∧ okM T p ∧ Res T p m) ∨
      (∃ k pc pos hd μ' lm li sn', k ≤ 3 * T.size + 30 ∧ μ'.size = 2 ∧ stp k (mk T 11 p p μ (-1) (-1) [fA p] 1 none sn) = mk T pc pos hd μ' lm li [fA p] 1 (some false) sn' ∧ ¬ okM T p) := by
  intro μ sn hm hp
  obtain ⟨k, hk, hr, _⟩ := letters (T := T) (hd := p) (μ := μ) (lm := -1) (li := -1) (fr := [fA p]) (wt := 1) (p := p) 7 0 sn rfl
  rcases hr with ⟨ha, sn1, e⟩ | ⟨ha, pc, pos, sn1, e⟩
  · have hL : okL T p := fun i hi => ha i (Nat.zero_le _) hi
    have h7 : p + 7 ≤ T.size := by have := (hL 6 (by decide)).1; omega
    obtain ⟨s2, e2⟩ := mark_a (T := T) (pos := p + 7) (hd := p) (μ := μ) (fr := [fA p]) (wt := 1) (sn := sn1)
    obtain ⟨s3, e3⟩ := rep_b (T := T) (pos := p + 7) (hd := p) (μ := μ.setIfInBounds 0 (some (p + 7))) (p := p) (sn := s2) h7 hT
    have us := upTo_spec (T := T) (· != 41) (T.size - (p + 7)) (p + 7)
    generalize upTo (· != 41) T (T.size - (p + 7)) (p + 7) = n at e3 us
    have e' : ∀ j, stp (k + 2 + j) (mk T 11 p p μ (-1) (-1) [fA p] 1 none sn) = stp j (mk T 34 (p + 7 + n) (p + 7 + n) (μ.setIfInBounds 0 (some (p + 7))) 0 (-1) [fB (p + 7 + n) n, fA p] 2 none s3) := by
      intro j
      rw [Nat.add_assoc, stp_add]
      have e9 : stp k (mk T 11 p p μ (-1) (-1) [fA p] 1 none sn) = _ := e
      rw [e9, stp_add]
      have e0 : ∀ m, stp 2 m = m.step.step := fun _ => rfl
      rw [e0, e2, e3]
    by_cases hq : p + 7 + n < T.size
    · have hc : T.getD (p + 7 + n) 0 = 41 := by have := us.2.2 (by omega); simpa using this
      obtain ⟨s4, e4⟩ := inner_win (T := T) (μ := μ.setIfInBounds 0 (some (p + 7))) (p := p) (q := p + 7 + n) (n := n) (sn := s3) hq hc
      refine .inl ⟨k + 2 + 6, _, by omega, rfl, ⟨hL, p + 7 + n, by omega, hq, hc⟩, ?_⟩
      rw [e' 6, e4]
      refine .inl ⟨p, p + 7 + n, Nat.le_refl _, hL, by omega, hq, hc, fun i h1 h2 => ?_, fun b h1 h2 => by omega, rfl, two_marks hm _ _, rfl, rfl, rfl, rfl⟩
      have := us.2.1 (i - (p + 7)) (by omega)
      rw [show p + 7 + (i - (p + 7)) = i by omega] at this
      simpa using this
    · have hn : p + 7 + n = T.size := by omega
      obtain ⟨k4, pos, hd, μ', s4, hk4, hm4, e4⟩ := inner_lose (T := T) (p := p) n (p + 7 + n) (μ.setIfInBounds 0 (some (p + 7))) s3 (by omega) fun i hi => by
        by_cases h0 : i = 0
        · subst h0; exact .inl (by omega)
        · have := us.2.1 (n - i) (by omega)
          rw [show p + 7 + (n - i) = p + 7 + n - i by omega] at this
          exact .inr (by simpa using this)
      refine .inr ⟨k + 2 + k4, _, _, _, _, _, _, _, by omega, by rw [hm4]; simpa using hm, (e' k4).trans e4, ?_⟩
      rintro ⟨_, q, h1, h2, h3⟩
      have := us.2.1 (q - (p + 7)) (by omega)
      rw [show p + 7 + (q - (p + 7)) = q by omega] at this
      exact absurd h3 (by simpa using this)
  · exact .inr ⟨k, pc, pos, p, μ, -1, -1, sn1, by omega, hm, e, fun h => ha fun i _ hi => h.1 i hi⟩
theorem outer (hT : T.size < 2 ^ 20) : ∀ (p : Nat) (μ : Array (Option Nat)) (sn : Seen), μ.size = 2 → p ≤ T.size → ∃ k m, k ≤ (p + 1) * (3 * T.size + 40) ∧ stp k (mk T 11 p p μ (-1) (-1) [fA p] 1 none sn) = m ∧ Res T p m := by
  intro p
  induction p with
  | zero =>
    intro μ sn hm hp
    rcases outer1 hT _ μ sn hm hp with ⟨k, m, hk, e, _, hr⟩ | ⟨k, pc, pos, hd, μ', lm, li, sn', hk, hm', e, hno⟩
    · exact ⟨k, m, by omega, e, hr⟩
    · refine ⟨k + 2, _, by omega, rfl, .inr ⟨fun b hb => ?_, ?_⟩⟩
      · have : b = 0 := by omega
        subst this; exact hno
      · rw [stp_add, e, back_a0]
  | succ p ih =>
    intro μ sn hm hp
    rcases outer1 hT _ μ sn hm hp with ⟨k, m, hk, e, _, hr⟩ | ⟨k, pc, pos, hd, μ', lm, li, sn', hk, hm', e, hno⟩
    · exact ⟨k, m, by have := Nat.mul_le_mul_right (3 * T.size + 40) (show 1 ≤ p + 1 + 1 by omega); omega, e, hr⟩
    · obtain ⟨s2, e2⟩ := back_a (T := T) (pc := pc) (pos := pos) (hd := hd) (μ := μ') (lm := lm) (li := li) (sn := sn') (p := p)
      obtain ⟨k3, m, hk3, e3, hr⟩ := ih μ' s2 hm' (by omega)
      refine ⟨k + (1 + k3), m, ?_, ?_, ?_⟩
      · rw [show (p + 1 + 1) * (3 * T.size + 40) = (p + 1) * (3 * T.size + 40) + (3 * T.size + 40) by rw [Nat.add_mul, Nat.one_mul]]; omega
      · rw [stp_add, e, stp_add]
        have e0 : ∀ m, stp 1 m = m.step := fun _ => rfl
        rw [e0, e2, e3]
      · rcases hr with ⟨a, q, h1, h2, h3, h4, h5, h6, h7, h8⟩ | ⟨h1, h2⟩
        · refine .inl ⟨a, q, by omega, h2, h3, h4, h5, h6, fun b hb1 hb2 => ?_, h8⟩
          by_cases hb : b = p + 1
          · subst hb; exact hno
          · exact h7 b hb1 (by omega)
        · refine .inr ⟨fun b hb => ?_, h2⟩
          by_cases hb' : b = p + 1
          · subst hb'; exact hno
          · exact h1 b (by omega)
end
end Mine
end
theorem Mine.walk_off_SM : True := by
  w_top off
  exact True.intro
section
open PySem PySem.Sre PySem.Builtin PySem.Builtin.Re
set_option maxRecDepth 100000
namespace Mine
theorem start_eq {T : Array Nat} (h8 : 8 ≤ T.size) : ∃ sn, forMatch fc T 1 0 T.size false false = mk T 5 0 0 #[none, none] (-1) (-1) [] 0 none sn := by
  unfold forMatch
  have h1 : header fc = (8, 5) := rfl
  rw [h1]
  have h2 : ¬ ((8 != 0 && decide (0 ≤ T.size) && decide (T.size - 0 < 8)) = true) := by
    simp; omega
  simp only
  rw [if_neg h2]
  exact ⟨_, rfl⟩
theorem match_res {T : Array Nat} (hT : T.size < 2 ^ 20) (h8 : 8 ≤ T.size) : ∃ k m, k ≤ 2 ^ 60 ∧ stp k (forMatch fc T 1 0 T.size false false) = m ∧ Res T (upTo (· != 10) T T.size 0) m := by
  obtain ⟨sn, e⟩ := start_eq h8
  obtain ⟨s1, e1⟩ := rep_a (T := T) (hd := 0) (μ := #[none, none]) (sn := sn) hT
  have us := (upTo_spec (T := T) (· != 10) T.size 0).1
  obtain ⟨k, m, hk, e2, hr⟩ := outer hT (upTo (· != 10) T T.size 0) #[none, none] s1 rfl us
  refine ⟨1 + k, m, ?_, ?_, hr⟩
  · have : (upTo (· != 10) T T.size 0 + 1) * (3 * T.size + 40) ≤ (2 ^ 20) * (2 ^ 23) := Nat.mul_le_mul (by omega) (by omega)
    have h2 : (2 : Nat) ^ 20 * 2 ^ 23 = 8796093022208 := by decide
    have h3 : (2 : Nat) ^ 60 = 1152921504606846976 := by decide
    omega
  · rw [e, stp_add]
    have e0 : ∀ m, stp 1 m = m.step := fun _ => rfl
    rw [e0, e1, e2]
section
variable {Md : Model} {A : Around} {E : Value → Shared → Prop} {s : Shared}
theorem stp_out {a b : Nat} {m : M} (h : (stp a m).outcome.isSome = true) (hab : a ≤ b) : stp b m = stp a m := by
  obtain ⟨d, rfl⟩ : ∃ d, b = a + d := ⟨b - a, by omega⟩
  rw [stp_add, stp_done d h]
theorem wp_drive {Q : M → Shared → Prop} : ∀ (turns k : Nat) (m : M), (stp k m).outcome.isSome = true → k ≤ 4 * turns → 1 ≤ turns → Q (stp k m) s → wpAny Md A (reDrive turns m) Q E s
  | 0, k, m, _, _, h1, _ => absurd h1 (by decide)
  | t + 1, k, m, h, hk, _, hq => by
    show wpAny Md A (if (m.runFor 4).outcome.isSome then pure (m.runFor 4) else do rule "sre.turn"; reDrive t (m.runFor 4)) Q E s
    rw [runFor_eq]
    by_cases h4 : k ≤ 4
    · rw [stp_out h h4, if_pos h]
      exact wpAny_pure hq
    · cases h5 : (stp 4 m).outcome.isSome with
      | true =>
        rw [if_pos rfl]
        refine wpAny_pure ?_
        rw [← stp_out h5 (by omega : 4 ≤ k)]
        exact hq
      | false =>
        rw [if_neg Bool.false_ne_true]
        have e : stp (k - 4) (stp 4 m) = stp k m := by rw [← stp_add]; congr 1; omega
        refine wpAny_bind (wpAny_rule ?_)
        refine wp_drive t (k - 4) (stp 4 m) (by rw [e]; exact h) (by omega) (by omega) ?_
        rw [e]; exact hq
theorem wp_said {m : M} {Q : PUnit → Shared → Prop} : ∀ (l : List Nat), Q ⟨⟩ s → wpAny Md A (forIn l PUnit.unit fun i _ => do
      if m.seen.has i then rule (Sre.names.getD i "")
      pure (ForInStep.yield PUnit.unit)) Q E s
  | [], h => wpAny_pure h
  | i :: l, h => by
    rw [List.forIn_cons]
    refine wpAny_bind ?_
    cases hs : m.seen.has i with
    | true => exact wpAny_bind (wpAny_rule (wpAny_pure (wp_said l h)))
    | false => exact wpAny_pure (wp_said l h)
theorem wp_end {Q : Option M → Shared → Prop} {k : Nat} {m0 m : M} (h0 : stp k m0 = m) (hk : k ≤ 2 ^ 60) (h : (m.outcome = some .matched ∧ Q (some m) s) ∨ (m.outcome = some .failed ∧ Q none s)) :
    wpAny Md A (reRunToEnd m0) Q E s := by
  unfold reRunToEnd
  refine wpAny_bind (wp_drive (2 ^ 64) k m0 (by rw [h0]; rcases h with ⟨h, _⟩ | ⟨h, _⟩ <;> rw [h] <;> rfl) (by
    have : (2 : Nat) ^ 60 = 1152921504606846976 := by decide
    have : (2 : Nat) ^ 64 = 18446744073709551616 := by decide
    omega) (by decide) ?_)
  rw [h0]
  refine wpAny_bind (wp_said _ ?_)
  rcases h with ⟨h, hq⟩ | ⟨h, hq⟩
  · rw [h]; exact wpAny_pure hq
  · rw [h]; exact wpAny_pure hq
end
end Mine
end
theorem Mine.walk_off_RE : True := by
  w_top off
  exact True.intro
section
open PySem PySem.W PyProof.Rows PyProof.V PySem.Spec PySem.Calls
set_option maxRecDepth 100000
namespace Mine
open Builtin Builtin.Re
theorem plain_reP : PlainAttrs "re.Pattern" :=
  ⟨⟨"object.__getattribute__", by rw [typeLookup_type, builtinLookup_eq_fast]; kernel_rfl, by decide +kernel⟩, by rw [typeLookup_type, builtinLookup_eq_fast]; kernel_rfl⟩
theorem plain_reM : PlainAttrs "re.Match" :=
  ⟨⟨"object.__getattribute__", by rw [typeLookup_type, builtinLookup_eq_fast]; kernel_rfl, by decide +kernel⟩, by rw [typeLookup_type, builtinLookup_eq_fast]; kernel_rfl⟩
theorem slot_match : Slot "re.Pattern" "match" "re.Pattern.match" :=
  .of (owner := "re.Pattern") (n := "match") (by rw [typeLookup_type, builtinLookup_eq_fast]; kernel_rfl) (by decide +kernel) (by decide +kernel) (by decide +kernel)
    (by first | exact .inl (by decide +kernel) | exact .inr (by decide +kernel)) (by rw [isSubtype_type]; kernel_rfl)
theorem slot_group : Slot "re.Match" "group" "re.Match.group" :=
  .of (owner := "re.Match") (n := "group") (by rw [typeLookup_type, builtinLookup_eq_fast]; kernel_rfl) (by decide +kernel) (by decide +kernel) (by decide +kernel)
    (by first | exact .inl (by decide +kernel) | exact .inr (by decide +kernel)) (by rw [isSubtype_type]; kernel_rfl)
theorem type_match : typeOf (.builtin "re.Pattern.match") = pure (.type "method_descriptor") := by show builtinType _ = _; rw [builtinType_eq_fast]; kernel_rfl
theorem type_group : typeOf (.builtin "re.Match.group") = pure (.type "method_descriptor") := by show builtinType _ = _; rw [builtinType_eq_fast]; kernel_rfl
theorem entry_match : entryFor table "re.Pattern.match" = some Builtin.«re.Pattern.match» := entryFor_of_tree (by kernel_rfl)
theorem entry_group : entryFor table "re.Match.group" = some Builtin.«re.Match.group» := entryFor_of_tree (by kernel_rfl)
theorem args_match (a b : Value) : argsOk "re.Pattern.match" ⟨[a, b], []⟩ := by unfold argsOk; kernel_rfl
theorem args_group (a b : Value) : argsOk "re.Match.group" ⟨[a, b], []⟩ := by unfold argsOk; kernel_rfl
section
variable {prog : Program} {w : World} {A : Around} {E : Value → Shared → Prop} {s : Shared} {a : Addr}
theorem method_match {o : Obj} {pl : Sem Bool} {Q : Value × List Value → Shared → Prop} (ho : s.heap.get? a = some o) (hc : o.cls = .type "re.Pattern") (hd : o.dict = none) (h : Q (.builtin "re.Pattern.match", [.ref a]) s) :
    wpAny (model prog w) A (getMethod (.ref a) "match" pl) Q E s :=
  getMethod_builtin ⟨o, ho, hc⟩ plain_reP slot_match type_match (fun a e => by cases e; exact ⟨o, ho, hd⟩) h
theorem method_group {o : Obj} {pl : Sem Bool} {Q : Value × List Value → Shared → Prop} (ho : s.heap.get? a = some o) (hc : o.cls = .type "re.Match") (hd : o.dict = none) (h : Q (.builtin "re.Match.group", [.ref a]) s) :
    wpAny (model prog w) A (getMethod (.ref a) "group" pl) Q E s :=
  getMethod_builtin ⟨o, ho, hc⟩ plain_reM slot_group type_group (fun a e => by cases e; exact ⟨o, ho, hd⟩) h
end
end Mine
end
theorem Mine.walk_off_RM : True := by
  w_top off
  exact True.intro
section
open PySem PySem.W PyProof.Rows PyProof.V PySem.Spec PySem.Calls
set_option maxRecDepth 100000
namespace Mine
open Builtin Builtin.Re
theorem sub_bytes : isSubtype (.type "bytes") (.type "bytes") = pure true := by rw [isSubtype_type]; kernel_rfl
theorem named_eq (b : Array UInt8) (t : Tok) : reNamed "re.Pattern.match" "match" ["string", "pos", "endpos"] 1 [.bytes b t] [] = pure [some (.bytes b t), none, none] := by rfl
theorem text_eq (b : Array UInt8) (t : Tok) : reTextOf (.bytes b t) = pure (b.map (·.toNat), 1) := by
  unfold reTextOf
  have e : asStr? (.bytes b t) = pure none := rfl
  rw [e, KBy.quiet_eq]
  rfl
noncomputable def tupleOf (a q : Nat) : Obj := { cls := .type "tuple", data := .seq #[rawInt 0, rawInt (q + 1 : Nat), rawInt (a + 7 : Nat), rawInt (q : Nat)] }
noncomputable def matchOf (b : Array UInt8) (t : Tok) (P c : Addr) : Obj := { cls := .type "re.Match", data := .fields #[.bytes b t, .ref P, rawInt 0, rawInt b.size, rawInt 1, .ref c] }
section
variable {M : Model} {A : Around} {E : Value → Shared → Prop} {s : Shared} {P c : Addr} {oP oc : Obj} {fs ws : Array Value} {nw : Nat} {b : Array UInt8} {t : Tok}
theorem wp_target (hP : s.heap.get? P = some oP) (hd : oP.data = .fields fs) (h5 : fs.getD 5 .none = .ref c) (hc : s.heap.get? c = some oc) (hcd : oc.data = .seq ws nw)
    (hw : (ws.map reRawOf).map (·.toNat) = fc) (h2 : reRawNat (fs.getD 2 .none) = 1) (h6 : reRawNat (fs.getD 6 .none) = 1) (hb : b.size < 2 ^ 20) {Q : ReTarget → Shared → Prop}
    (hq : Q { pattern := .ref P, string := .bytes b t, code := fc, text := b.map (·.toNat), kind := 1, groups := 1, pos := 0, lim := b.size } s) :
    wpAny M A (reTarget "re.Pattern.match" "match" ⟨[.ref P, .bytes b t], []⟩) Q E s := by
  unfold reTarget
  show wpAny M A (reNamed "re.Pattern.match" "match" ["string", "pos", "endpos"] 1 [.bytes b t] [] >>= _) Q E s
  rw [named_eq]
  refine wpAny_bind (wpAny_pure ?_)
  refine wpAny_bind (wpAny_pure ?_)
  refine wpAny_bind (wpAny_pure ?_)
  refine wpAny_bind (wpAny_fieldsOf hP hd ?_)
  rw [text_eq]
  refine wpAny_bind (wpAny_pure ?_)
  simp only [h6]
  rw [if_neg (by decide), if_neg (by decide)]
  refine wpAny_bind ?_
  unfold reNoCollectionInside
  rw [if_pos (by decide)]
  refine wpAny_bind (wpAny_isInstance (typeIs_bytes s b t) sub_bytes ?_)
  refine wpAny_pure ?_
  refine wpAny_bind ?_
  unfold reRawItems
  rw [h5]
  refine wpAny_bind (wpAny_seqItems hc hcd (wpAny_pure ?_))
  refine wpAny_pure ?_
  have e1 : (((some ws).getD #[]).map reRawOf).map (·.toNat) = fc := hw
  have e2 : Min.min (Int.toNat 0) (Array.map (fun x : UInt8 => x.toNat) b).size = 0 := Nat.zero_min _
  have e3 : Min.min ((2 : Int) ^ 63 - 1).toNat (Array.map (fun x : UInt8 => x.toNat) b).size = b.size := by
    rw [Array.size_map]; omega
  rw [e1, e2, e3, h2]
  exact hq
theorem dummy : True := trivial
/-- the match of a pattern with a text: what it found, or nothing -/
theorem match_entry (hP : s.heap.get? P = some oP) (hd : oP.data = .fields fs) (h5 : fs.getD 5 .none = .ref c) (hc : s.heap.get? c = some oc) (hcd : oc.data = .seq ws nw)
    (hw : (ws.map reRawOf).map (·.toNat) = fc) (h2 : reRawNat (fs.getD 2 .none) = 1) (h6 : reRawNat (fs.getD 6 .none) = 1) (hb : b.size < 2 ^ 20) (h8 : 8 ≤ b.size) {Q : Fin → Shared → Prop}
    (hq : ∀ m, Res (b.map (·.toNat)) (upTo (· != 10) (b.map (·.toNat)) b.size 0) m → ((m.outcome = some .failed ∧ Q (.done (.ret .none)) s) ∨ (m.outcome = some .matched ∧ ∃ a q : Nat, m.marks = #[some (a + 7), some q] ∧ a + 7 ≤ q ∧ m.lastmark = 1 ∧ m.lastindex = 1 ∧ m.start = 0 ∧ m.handed = q + 1 ∧
      Q (.done (.ret (.ref (s.heap.objs.size + 1)))) { s with heap := ((s.heap.push (tupleOf a q)).push (matchOf b t P s.heap.objs.size)) }))) :
    wpAny M A (Builtin.«re.Pattern.match» ⟨[.ref P, .bytes b t], []⟩) Q E s := by
  unfold Builtin.«re.Pattern.match»
  refine wpAny_bind (wp_target hP hd h5 hc hcd hw h2 h6 hb ?_)
  unfold reAnswer
  have hs : (b.map (·.toNat)).size = b.size := Array.size_map ..
  obtain ⟨k, m, hk, e, hr⟩ := match_res (T := b.map (·.toNat)) (by rw [hs]; exact hb) (by rw [hs]; exact h8)
  rw [hs] at e hr
  rcases hq m hr with ⟨h1, hq⟩ | ⟨h1, a, q, hm, haq, hlm, hli, hst, hha, hq⟩
  · refine wpAny_bind (wp_end e hk (.inr ⟨h1, ?_⟩))
    exact wpAny_pure hq
  · refine wpAny_bind (wp_end e hk (.inl ⟨h1, ?_⟩))
    refine wpAny_bind ?_
    unfold reNewMatch
    simp only [hm, hlm, hli, hst, hha]
    show wpAny M A (if (decide (((2 * 0 + 1 : Nat) : Int) ≤ 1) && decide (q < a + 7) || false) = true then _ else newTuple [rawInt ((0 : Nat) : Int), rawInt ((q + 1 : Nat) : Int), rawInt ((a + 7 : Nat) : Int), rawInt (q : Int)] >>= fun v => newFields "re.Match" [.bytes b t, .ref P, rawInt ((0 : Nat) : Int), rawInt (b.size : Int), rawInt 1, v]) _ E s
    have e4 : ¬ ((decide (((2 * 0 + 1 : Nat) : Int) ≤ 1) && decide (q < a + 7) || false) = true) := by
      rw [decide_eq_false (show ¬ q < a + 7 by omega)]
      decide
    rw [if_neg e4]
    refine wpAny_bind (wpAny_newTuple ?_)
    unfold newFields
    refine wpAny_newObj_type ?_
    refine wpAny_pure ?_
    rw [Heap.size_push]
    exact hq
end
end Mine
end
theorem Mine.walk_off_RG : True := by
  w_top off
  exact True.intro
section
open PySem PySem.W PyProof.Rows PyProof.V PySem.Spec PySem.Calls
set_option maxRecDepth 100000
namespace Mine
open Builtin Builtin.Re
theorem str_noindex : typeLookup (.type "str") "__index__" = pure none := by rw [typeLookup_type, builtinLookup_eq_fast]; kernel_rfl
section
variable {prog : Program} {w : World} {A : Around} {E : Value → Shared → Prop} {s : Shared} {P mo tu d : Addr} {oP ot oD : Obj} {fs : Array Value} {b : Array UInt8} {t u t9 : Tok} {a q : Nat} {es : Array DictEntry} {ep : Nat}
theorem dict_flags {k : Str} {v : Value} {Q : Option Value → Shared → Prop} (hD : s.heap.get? d = some oD) (hDd : oD.data = .dict es ep) (hall : (es.all fun e => isExactStrKey e.key) = true) (hf : findBy (fun k v => v.isStr k) es k = some v)
    (hq : Q (some v) { s with toks := s.toks + 1 }) : wpAny (model prog w) A (dictGet d (.str k u)) Q E s := by
  unfold dictGet
  try with_reducible refine wpAny_holding ?_
  refine wpAny_bind (wpAny_pyHash_str (wpAny_bind (KTD.kt_dictFind_strs (s := { s with toks := s.toks + 1 }) hD hDd hall ?_)))
  rw [findBy_of_findIdx?] at hf
  cases hi : es.findIdx? fun e => e.key.isStr k with
  | none => rw [hi] at hf; cases hf
  | some i =>
    rw [hi] at hf
    refine wpAny_bind (wpAny_dictEntries (s := { s with toks := s.toks + 1 }) hD hDd (wpAny_pure ?_))
    have hf' : (es[i]?).map (·.val) = some v := hf
    rw [hf']; exact hq
theorem group_entry (hm : s.heap.get? mo = some (matchOf b t P tu)) (ht : s.heap.get? tu = some (tupleOf a q)) (hP : s.heap.get? P = some oP) (hd : oP.data = .fields fs) (h3 : fs.getD 3 .none = .ref d)
    (hD : s.heap.get? d = some oD) (hDd : oD.data = .dict es ep) (hall : (es.all fun e => isExactStrKey e.key) = true) (hf : findBy (fun k v => v.isStr k) es (Str.ofString "flags") = some (.int 1 t9)) (hb : b.size < 2 ^ 20) {Q : Fin → Shared → Prop}
    (hq : ∀ t' k, Q (.done (.ret (.bytes (b.extract (a + 7) q) t'))) { s with toks := k }) :
    wpAny (model prog w) A (Builtin.«re.Match.group» ⟨[.ref mo, .str (Str.ofString "flags") u], []⟩) Q E s := by
  unfold Builtin.«re.Match.group»
  refine wpAny_bind (m := noKeywords "Match.group" _) (wpAny_of_eq (a := ()) rfl ?_)
  show wpAny _ _ (reFound (.ref mo) >>= fun x => _) _ _ _
  refine wpAny_bind ?_
  unfold reFound
  refine wpAny_bind (wpAny_fieldsOf hm rfl ?_)
  refine wpAny_bind ?_
  unfold reRawItems
  refine wpAny_bind (wpAny_seqItems ht rfl (wpAny_pure ?_))
  refine wpAny_pure ?_
  have e0 : ((some #[rawInt 0, rawInt ((q + 1 : Nat) : Int), rawInt ((a + 7 : Nat) : Int), rawInt (q : Int)]).getD #[]).map reRawOf = #[0, ((q + 1 : Nat) : Int), ((a + 7 : Nat) : Int), (q : Int)] := by
    show (#[rawInt 0, rawInt ((q + 1 : Nat) : Int), rawInt ((a + 7 : Nat) : Int), rawInt (q : Int)] : Array Value).map reRawOf = _
    simp [reRawOf, rawInt]
  rw [e0]
  show wpAny _ _ (reGroupNumber _ _ >>= fun g => _) _ _ _
  refine wpAny_bind ?_
  unfold reGroupNumber
  refine wpAny_bind (wpAny_of_eq (a := none) rfl ?_)
  simp only [Option.isSome_none, Bool.false_eq_true, if_false]
  refine wpAny_bind (wpAny_specialOf (typeIs_str _ _ _) str_noindex ?_)
  simp only [Option.isSome_none, Bool.false_eq_true, if_false]
  show wpAny _ _ (fieldsOf (.ref P) >>= fun f => _) _ _ _
  refine wpAny_bind (wpAny_fieldsOf hP hd ?_)
  simp only [h3]
  refine wpAny_bind (dict_flags hD hDd hall hf ?_)
  refine wpAny_bind (wpAny_of_eq (a := some 1) rfl ?_)
  refine wpAny_bind (wpAny_pure ?_)
  rw [if_neg (by simp)]
  refine wpAny_pure ?_
  refine wpAny_bind ?_
  unfold reGroupText
  show wpAny _ _ (if (decide (((a + 7 : Nat) : Int) < 0) || decide (((q : Nat) : Int) < 0)) = true then pure Value.none else (reTextOf (.bytes b t) >>= fun x => match x with | (text, kind) => reSlice text kind ((a + 7 : Nat) : Int).toNat ((q : Nat) : Int).toNat)) _ _ _
  rw [if_neg (by simp; omega), text_eq]
  refine wpAny_bind (wpAny_pure ?_)
  show wpAny _ _ (reSlice (b.map (·.toNat)) 1 ((a + 7 : Nat) : Int).toNat ((q : Nat) : Int).toNat) _ _ _
  unfold reSlice
  rw [if_neg (by decide), Int.toNat_natCast, Int.toNat_natCast]
  have e : ((b.map (·.toNat)).extract (a + 7) q).map (·.toUInt8) = b.extract (a + 7) q := by
    rw [← Array.map_extract, Array.map_map]
    have e1 : ((fun x : Nat => x.toUInt8) ∘ fun x : UInt8 => x.toNat) = (fun x : UInt8 => x) := by
      funext x; simp
    rw [e1]; simp
  rw [e]
  refine wpAny_mkBytes ?_ (by rw [sizeLine_eq, Array.size_extract]; omega)
  exact wpAny_pure (hq _ _)
end
end Mine
end
theorem Mine.walk_off_BS : True := by
  w_top off
  exact True.intro
section
open PySem PySem.W PyProof.Rows PyProof.V PySem.Spec PySem.Calls
set_option maxRecDepth 100000
namespace Mine
open Builtin
theorem slot_bsplit : Slot "bytes" "split" "bytes.split" :=
  .of (owner := "bytes") (n := "split") (by rw [typeLookup_type, builtinLookup_eq_fast]; kernel_rfl) (by decide +kernel) (by decide +kernel) (by decide +kernel)
    (by first | exact .inl (by decide +kernel) | exact .inr (by decide +kernel)) (by rw [isSubtype_type]; kernel_rfl)
theorem type_bsplit : typeOf (.builtin "bytes.split") = pure (.type "method_descriptor") := by show builtinType _ = _; rw [builtinType_eq_fast]; kernel_rfl
theorem entry_bsplit : entryFor table "bytes.split" = some Builtin.«bytes.split» := entryFor_of_tree (by kernel_rfl)
theorem args_bsplit (a : Value) : argsOk "bytes.split" ⟨[a], []⟩ := by unfold argsOk; kernel_rfl
theorem bind_bsplit : Bytes.bindOptional "bytes.split" "split" ["sep", "maxsplit"] [] [] = pure [none, none] := by rfl
theorem paired_len {α β : Type} {F : α → β → Prop} : ∀ {l : List α} {r : List β}, Paired F l r → r.length = l.length
  | [], [], .nil => rfl
  | _ :: _, _ :: _, .cons _ r => by rw [List.length_cons, List.length_cons, paired_len r]
theorem plain_bytes : PlainAttrs "bytes" :=
  ⟨⟨"bytes.__getattribute__", by rw [typeLookup_type, builtinLookup_eq_fast]; kernel_rfl, by decide +kernel⟩, by rw [typeLookup_type, builtinLookup_eq_fast]; kernel_rfl⟩
section
variable {prog : Program} {w : World} {A : Around} {E : Value → Shared → Prop} {s : Shared} {b : Array UInt8} {t : Tok}
theorem new_bytes {Q : List Value → Shared → Prop} : ∀ (ws : List (List UInt8)) (k : Nat), (∀ x ∈ ws, x.length ≤ 16777216) → (∀ vs k', Paired (fun x v => ∃ u, v = Value.bytes (List.toArray x) u) ws vs → Q vs { s with toks := k' }) →
    wpAny (model prog w) A (ws.mapM fun x => Bytes.Kind.new .bytes x.toArray) Q E { s with toks := k }
  | [], k, _, h => wpAny_pure (h [] k .nil)
  | x :: ws, k, hs, h => by
    rw [List.mapM_cons]
    refine wpAny_bind ?_
    show wpAny _ _ (mkBytes x.toArray) _ _ _
    refine wpAny_mkBytes ?_ (by rw [sizeLine_eq, List.size_toArray]; exact hs x (.head _))
    refine wpAny_bind (new_bytes (Q := fun vs s' => wpAny (model prog w) A (pure (_ :: vs)) Q E s') ws _ (fun y hy => hs y (.tail _ hy)) fun vs k' hp => ?_)
    exact wpAny_pure (h _ _ (.cons ⟨_, rfl⟩ hp))
theorem bsplit_entry (hsp : b.any Bytes.isSpace = true) (hw : ∀ x ∈ Bytes.words (b.size + 1) (b.size + 1) b.toList, x.length ≤ 16777216) (hl : (Bytes.words (b.size + 1) (b.size + 1) b.toList).length ≤ 16777216) {Q : Fin → Shared → Prop}
    (hq : ∀ vs k', Paired (fun x v => ∃ u, v = Value.bytes (List.toArray x) u) (Bytes.words (b.size + 1) (b.size + 1) b.toList) vs → Q (.done (.ret (.ref s.heap.objs.size))) { s with heap := s.heap.push { cls := .type "list", data := .seq vs.toArray }, toks := k' }) :
    wpAny (model prog w) A (Builtin.«bytes.split» ⟨[.bytes b t], []⟩) Q E s := by
  unfold Builtin.«bytes.split» Bytes.splitM
  show wpAny _ _ (Bytes.bindOptional "bytes.split" "split" ["sep", "maxsplit"] [] [] >>= fun r => _) _ _ _
  rw [bind_bsplit]
  refine wpAny_bind (wpAny_pure ?_)
  dsimp only
  refine wpAny_bind (wpAny_pure ?_)
  refine wpAny_bind (wpAny_of_eq (a := b) rfl ?_)
  refine wpAny_bind (wpAny_rule ?_)
  rw [if_neg (by rw [hsp]; simp), if_neg (by decide)]
  have e : (if (-1 : Int) < 0 then b.size + 1 else (-1 : Int).toNat) = b.size + 1 := rfl
  rw [e]
  refine wpAny_bind (new_bytes (s := s) _ _ hw fun vs k' hp => ?_)
  refine wpAny_bind (wpAny_newList (wpAny_pure (hq vs k' hp)) ?_)
  have : vs.length = (Bytes.words (b.size + 1) (b.size + 1) b.toList).length := paired_len hp
  rw [sizeLine_eq, this]; exact hl
/-- the words of a line, as a made list -/
theorem bsplit_K {h₀ : Heap} {L : Addr} {m : Str → Option Value} {news : List (Addr × Obj)} (F : Fr h₀ L s.heap m) (N : News h₀ L s.heap news) (hsp : b.any Bytes.isSpace = true) (hw : ∀ x ∈ Bytes.words (b.size + 1) (b.size + 1) b.toList, x.length ≤ 16777216) (hl : (Bytes.words (b.size + 1) (b.size + 1) b.toList).length ≤ 16777216) {Q : Value → Shared → Prop}
    (hq : ∀ vs D h' k', Paired (fun x v => ∃ u, v = Value.bytes (List.toArray x) u) (Bytes.words (b.size + 1) (b.size + 1) b.toList) vs → Fr h₀ L h' m → News h₀ L h' ((D, listOf vs.toArray 0) :: news) → (∀ p ∈ news, p.1 < D) → Q (.ref D) { s with heap := h', toks := k' }) :
    wpAny (model prog w) A (call (.builtin "bytes.split") [.bytes b t]) Q E s := by
  refine wpAny_call_entry slot_bsplit (typeIs_bytes _ _ _) entry_bsplit (bsplit_entry hsp hw hl fun vs k' hp => ⟨_, rfl, ?_⟩) (args_bsplit _)
  exact hq vs _ _ k' hp (F.push _) (News.push F N _) (fun p hp => Heap.lt_size (N p hp).1)
theorem method_bsplit {pl : Sem Bool} {Q : Value × List Value → Shared → Prop} (h : Q (.builtin "bytes.split", [.bytes b t]) s) : wpAny (model prog w) A (getMethod (.bytes b t) "split" pl) Q E s :=
  getMethod_builtin (typeIs_bytes _ _ _) plain_bytes slot_bsplit type_bsplit (fun a e => by cases e) h
end
end Mine
end
theorem Mine.walk_off_RT : True := by
  w_top off
  exact True.intro
section
open PySem PySem.W PyProof.Rows PyProof.V PySem.Spec PySem.Calls
set_option maxRecDepth 100000
namespace Mine
open Builtin
theorem reM_nobool : typeLookup (.type "re.Match") "__bool__" = pure none := by rw [typeLookup_type, builtinLookup_eq_fast]; kernel_rfl
theorem reM_nolen : typeLookup (.type "re.Match") "__len__" = pure none := by rw [typeLookup_type, builtinLookup_eq_fast]; kernel_rfl
theorem one_all {hsh : Int} {x : Str} {t : Tok} {v : Value} : ((#[{ hash := hsh, key := .str x t, val := v }] : Array DictEntry).all fun e => isExactStrKey e.key) = true := by
  simp [isExactStrKey]
theorem one_find {hsh : Int} {x : Str} {t : Tok} {v : Value} : findBy (fun k v => v.isStr k) (#[{ hash := hsh, key := .str x t, val := v }] : Array DictEntry) x = some v := by
  simp [findBy, Value.isStr]
/-- what ParseFlags finds in a line -/
noncomputable def Found (T : Array Nat) : Option (Nat × Nat) → Prop
  | none => ∀ b, b ≤ upTo (· != 10) T T.size 0 → ¬ okM T b
  | some (a, q) => a ≤ upTo (· != 10) T T.size 0 ∧ okL T a ∧ a + 7 ≤ q ∧ q < T.size ∧ T.getD q 0 = 41 ∧ (∀ i, a + 7 ≤ i → i < q → T.getD i 0 ≠ 41) ∧ ∀ b, a < b → b ≤ upTo (· != 10) T T.size 0 → ¬ okM T b
theorem found_res {T : Array Nat} {o : Option (Nat × Nat)} (h : Found T o) {m : Sre.M} (r : Res T (upTo (· != 10) T T.size 0) m) :
    (o = none ∧ m.outcome = some .failed) ∨ ∃ a q, o = some (a, q) ∧ m.outcome = some .matched ∧ m.marks = #[some (a + 7), some q] ∧ m.lastmark = 1 ∧ m.lastindex = 1 ∧ m.start = 0 ∧ m.handed = q + 1 := by
  rcases r with ⟨a, q, h1, h2, h3, h4, h5, h6, h7, h8⟩ | ⟨h1, h2⟩
  · have hM : okM T a := ⟨h2, q, h3, h4, h5⟩
    match o, h with
    | none, h => exact absurd hM (h a h1)
    | some (a', q'), ⟨g1, g2, g3, g4, g5, g6, g7⟩ =>
      have hM' : okM T a' := ⟨g2, q', g3, g4, g5⟩
      have ea : a = a' := by
        by_cases l1 : a < a'
        · exact absurd hM' (h7 a' l1 g1)
        · by_cases l2 : a' < a
          · exact absurd hM (g7 a l2 h1)
          · omega
      subst ea
      have eq : q = q' := by
        by_cases l1 : q < q'
        · exact absurd h5 (g6 q h3 l1)
        · by_cases l2 : q' < q
          · exact absurd g5 (h6 q' g3 l2)
          · omega
      subst eq
      exact .inr ⟨a, q, rfl, h8⟩
  · match o, h with
    | none, _ => exact .inl ⟨rfl, h2⟩
    | some (a', q'), ⟨g1, g2, g3, g4, g5, _⟩ => exact absurd ⟨g2, q', g3, g4, g5⟩ (h1 a' g1)
section
variable {prog : Program} {w : World} {A : Around} {E : Value → Shared → Prop} {s : Shared}
theorem truthy_match {mo : Addr} {o : Obj} {Q : Bool → Shared → Prop} (ho : s.heap.get? mo = some o) (hc : o.cls = .type "re.Match") (h : Q true s) : wpAny (model prog w) A (truthy (.ref mo)) Q E s := by
  have hT : s.TypeIs (.ref mo) "re.Match" := ⟨o, ho, hc⟩
  unfold truthy
  refine wpAny_bind (wpAny_callSpecial?_none hT reM_nobool ?_)
  refine wpAny_bind (wpAny_specialOf hT reM_nolen ?_)
  rw [if_pos (show Option.isNone (none : Option Value) = true from rfl)]
  exact wpAny_pure h
theorem call_match {h₀ : Heap} {L : Addr} {m : Str → Option Value} {news : List (Addr × Obj)} {P c : Addr} {oP oc : Obj} {fs ws : Array Value} {nw : Nat} {b : Array UInt8} {t : Tok} {o : Option (Nat × Nat)} (F : Fr h₀ L s.heap m) (N : News h₀ L s.heap news)
    (hP : s.heap.get? P = some oP) (hPc : oP.cls = .type "re.Pattern") (hd : oP.data = .fields fs) (h5 : fs.getD 5 .none = .ref c) (hc : s.heap.get? c = some oc) (hcd : oc.data = .seq ws nw)
    (hw : (ws.map Re.reRawOf).map (·.toNat) = fc) (h2 : Re.reRawNat (fs.getD 2 .none) = 1) (h6 : Re.reRawNat (fs.getD 6 .none) = 1) (hb : b.size < 2 ^ 20) (h8 : 8 ≤ b.size) (hf : Found (b.map (·.toNat)) o) {Q : Value → Shared → Prop}
    (h0 : o = none → Q .none s)
    (h1 : ∀ a q mo tu h', o = some (a, q) → Fr h₀ L h' m → News h₀ L h' ((mo, matchOf b t P tu) :: (tu, tupleOf a q) :: news) → (∀ p ∈ (tu, tupleOf a q) :: news, p.1 < mo) → (∀ p ∈ news, p.1 < tu) → Q (.ref mo) { s with heap := h' }) :
    wpAny (model prog w) A (call (.builtin "re.Pattern.match") [.ref P, .bytes b t]) Q E s := by
  refine wpAny_call_entry slot_match ⟨oP, hP, hPc⟩ entry_match (match_entry hP hd h5 hc hcd hw h2 h6 hb h8 fun mm r => ?_) (args_match _ _)
  have hs : (b.map (·.toNat)).size = b.size := Array.size_map ..
  rw [← hs] at r
  have r' : Res (b.map (·.toNat)) (upTo (· != 10) (b.map (·.toNat)) (b.map (·.toNat)).size 0) mm := r
  rcases found_res hf r' with ⟨e, ho⟩ | ⟨a, q, e, ho, e1, e2, e3, e4, e5⟩
  · exact .inl ⟨ho, _, rfl, h0 e⟩
  · refine .inr ⟨ho, a, q, e1, ?_, e2, e3, e4, e5, _, rfl, ?_⟩
    · rw [e] at hf; exact hf.2.2.1
    · have F1 := F.push (tupleOf a q)
      have N1 := News.push F N (tupleOf a q)
      have N2 := News.push F1 N1 (matchOf b t P s.heap.objs.size)
      rw [Heap.size_push] at N2
      exact h1 a q _ _ _ e (F1.push _) N2 (fun p hp => by
        have := Heap.lt_size (N1 p hp).1
        rwa [Heap.size_push] at this) (fun p hp => Heap.lt_size (N p hp).1)
theorem call_group {h₀ : Heap} {L : Addr} {news : List (Addr × Obj)} {P mo tu d : Addr} {oP oD : Obj} {fs : Array Value} {b : Array UInt8} {t u t9 : Tok} {a q : Nat} {es : Array DictEntry} {ep : Nat} (N : News h₀ L s.heap news) (hm : (mo, matchOf b t P tu) ∈ news) (ht : (tu, tupleOf a q) ∈ news)
    (hP : s.heap.get? P = some oP) (hd : oP.data = .fields fs) (h3 : fs.getD 3 .none = .ref d)
    (hD : s.heap.get? d = some oD) (hDd : oD.data = .dict es ep) (hall : (es.all fun e => isExactStrKey e.key) = true) (hf : findBy (fun k v => v.isStr k) es (Str.ofString "flags") = some (.int 1 t9)) (hb : b.size < 2 ^ 20) {Q : Value → Shared → Prop}
    (hq : ∀ t' k, Q (.bytes (b.extract (a + 7) q) t') { s with toks := k }) : wpAny (model prog w) A (call (.builtin "re.Match.group") [.ref mo, .str (Str.ofString "flags") u]) Q E s :=
  wpAny_call_entry slot_group ⟨_, (N _ hm).1, rfl⟩ entry_group (group_entry (N _ hm).1 (N _ ht).1 hP hd h3 hD hDd hall hf hb fun t' k => ⟨_, rfl, hq t' k⟩) (args_group _ _)
end
end Mine
end
theorem Mine.walk_off_PF : True := by
  w_top off
  exact True.intro
section
open PySem PySem.W PyProof.Rows
set_option Elab.async false
set_option maxRecDepth 100000
set_option maxHeartbeats 8000000
namespace Mine

theorem tuple_made {prog : Program} {w : World} {A : Around} {E : Value → Shared → Prop} {s : Shared} {h₀ : Heap} {L : Addr} {m : Str → Option Value} {news : List (Addr × Obj)} {l : Addr} {vs : List Value} {k : Nat} {Q : Value → Shared → Prop} (F : Fr h₀ L s.heap m) (N : News h₀ L s.heap news) (hm : (l, listOf vs.toArray k) ∈ news) (hsz : vs.length ≤ 16777216)
    (h : ∀ D h' k, Fr h₀ L h' m → News h₀ L h' ((D, ({ cls := .type "tuple", data := .seq vs.toArray } : Obj)) :: news) → (∀ p ∈ news, p.1 < D) → Q (.ref D) { s with heap := h', toks := k }) : wpAny (model prog w) A (call (.type "tuple") [.ref l]) Q E s := by
  refine PySem.call_tuple_list ⟨_, (N _ hm).1, rfl, _, rfl⟩ (fun h' hk => ?_) (by rw [sizeLine_eq]; simpa using hsz)
  exact h _ _ _ ((F.keeps hk).push _) (News.push (F.keeps hk) (N.grown hk) _) (fun p hp => Heap.lt_size ((N.grown hk) p hp).1)
theorem drop3 {h₀ h : Heap} {L : Addr} {p a b c : Addr × Obj} {news : List (Addr × Obj)} (N : News h₀ L h (p :: a :: b :: c :: news)) : News h₀ L h (p :: news) := by
  intro q hq
  rcases List.mem_cons.mp hq with rfl | hq
  · exact N _ (.head _)
  · exact N _ (.tail _ (.tail _ (.tail _ (.tail _ hq))))
noncomputable def grp (x : List UInt8) : Option (Nat × Nat) → List (List UInt8)
  | none => []
  | some (a, q) => Builtin.Bytes.words ((x.toArray.extract (a + 7) q).size + 1) ((x.toArray.extract (a + 7) q).size + 1) (x.toArray.extract (a + 7) q).toList
theorem c_flags {w : World} {p : Program} {loose : List Str} {mean : ExcName → Option Value} {mg mb : Str → Option Value}
  {dp un : Nat} {gd : Option (List Code)} {cn : Str} {cs : Scope} {a : Addr} {ccd : Value} {cl : List (Str × Addr)} {outer : List Env} {A₀ : Around} {base h₀ : Heap} {L : Addr} {m : Str → Option Value} {news : List (Addr × Obj)} {s : Shared} {Q E : Value → Shared → Prop}
  (B : Below A₀ base outer h₀) (F : Fr h₀ L s.heap m) (X : (hd.heap_39 w.params).In h₀) (N : News h₀ L s.heap news) (T : Top p loose mean mg mb h₀) (hk : cs.kind = .function)
  (hdp : dp + 20 < recursionLimit) (hu : un + 2000 < cLine)
  {x : List UInt8} {t1 : Tok} {o : Option (Nat × Nat)} (hx : x.length < 2 ^ 20) (h8 : 8 ≤ x.length) (hf : Found (x.toArray.map (·.toNat)) o) (hsp : ∀ a q, o = some (a, q) → (x.toArray.extract (a + 7) q).any Builtin.Bytes.isSpace = true) (hwl : ∀ y ∈ grp x o, y.length ≤ 16777216) (hwn : (grp x o).length ≤ 16777216)
  (hret : ∀ vs D h' tk', Paired (fun x v => ∃ u, v = Value.bytes (List.toArray x) u) (grp x o) vs → Fr h₀ L h' m → News h₀ L h' ((D, ({ cls := .type "tuple", data := .seq vs.toArray } : Obj)) :: news) → (∀ p ∈ news, p.1 < D) → Q (.ref D) { s with heap := h', toks := tk' }) :
  wpAny (model PySem.Challenge.rw_xi0006_01.row.prog w) (ktrTop dp un gd cn cs L a ccd cl outer) (call (.ref 115) [.bytes x.toArray t1]) Q E s := by
  k_with_none
  revert X; k_fill; intro X
  refine wpAny_call ?_
  k_dflt cell_enter
  (k_with "getMethod ref" => ((with_reducible show wpAny _ _ (getMethod (Value.ref 101) _ _) _ _ _); k_dflt (refine' method_match ?ho ?hc ?hd ?_; (case ho => exact (Frag.In.keeps (by assumption) (Fr.keep (by assumption))) _ _ rfl); (case hc => rfl); (case hd => rfl))))
  (k_with "call builtin:re.Pattern.match" => refine Stop.mk ?_)
  k_steps
  refine Stop.out ?_
  (with_reducible rename Fr _ _ _ _ => F9)
  (with_reducible rename News _ _ _ _ => N9)
  k_dflt (refine' call_match F9 N9 ?ho ?hc ?hd ?h5 ?hcc ?hcd ?hw ?h2 ?h6 ?hb ?h8 hf ?h0 ?h1; (case ho => exact (Frag.In.keeps (by assumption) (Fr.keep (by assumption))) _ _ rfl); (case hc => rfl); (case hd => rfl); (case h5 => rfl); (case hcc => exact (Frag.In.keeps (by assumption) (Fr.keep (by assumption))) _ _ rfl); (case hcd => rfl); (case hw => decide +kernel); (case h2 => rfl); (case h6 => rfl); (case hb => (simp; omega)); (case h8 => (simp; omega)))
  case h0 =>
    intro ho
    subst ho
    k_steps
    k_dflt (refine' hret [] ?D0 ?h0 ?k0 .nil ?F0 ?N0 ?l0; (case F0 => assumption); (case N0 => assumption); (case l0 => assumption))
  case h1 =>
    intro a q mo tu h' ho F8 N8 l1 l2
    subst ho
    (k_with "truthy" => k_dflt (refine' truthy_match ?ho2 ?hc2 ?_; (case ho2 => exact ((by assumption : News _ _ _ (_ :: _)) _ (.head _)).1); (case hc2 => rfl)))
    (k_with "getMethod ref" => ((with_reducible show wpAny _ _ (getMethod (Value.ref mo) _ _) _ _ _); k_dflt (refine' method_group ?ho3 ?hc3 ?hd3 ?_; (case ho3 => exact ((by assumption : News _ _ _ (_ :: _)) _ (.head _)).1); (case hc3 => rfl); (case hd3 => rfl))))
    (k_with "call builtin:re.Match.group" => k_dflt (refine' call_group ?gN ?gm ?gt ?gP ?gd ?g3 ?gD ?gDd ?gall ?gf ?gb ?_; (case gN => k_asm); (case gm => exact .head _); (case gt => exact .tail _ (.head _)); (case gP => exact (Frag.In.keeps (by assumption) (Fr.keep (by assumption))) _ _ rfl); (case gd => rfl); (case g3 => rfl); (case gD => exact (Frag.In.keeps (by assumption) (Fr.keep (by assumption))) _ _ rfl); (case gDd => rfl); (case gall => exact one_all); (case gf => exact one_find); (case gb => (simp; omega)); (intro t9 k9)))
    (k_with "getMethod bytes" => k_dflt (refine' method_bsplit ?_))
    (k_with "call builtin:bytes.split" => k_dflt (refine' bsplit_K ?sF ?sN ?ss ?sw ?sl ?_; (case sF => k_asm); (case sN => k_asm); (case ss => exact hsp _ _ rfl); (case sw => exact hwl); (case sl => exact hwn); (intro vs9 D9 h9 k9 P9 F9 N9 l9)))
    (k_with "call type:tuple" => refine Stop.mk ?_)
    k_steps
    refine Stop.out ?_
    (with_reducible rename Fr _ _ _ _ => F7)
    (with_reducible rename News _ _ _ _ => N7)
    (with_reducible rename Paired _ _ _ => P7)
    have e7 := paired_len P7
    k_dflt (refine' tuple_made F7 N7 (.head _) ?_ ?_)
    · rw [e7]; exact hwn
    intro D8 h8 k8 F8 N8 l8
    k_steps
    k_dflt (refine' hret _ ?D1 ?h1 ?k1 P7 ?F1 ?N1 ?l1; (case F1 => assumption); (case N1 => exact drop3 (by assumption)); (case l1 => exact fun p hp => l8 p (.tail _ (.tail _ (.tail _ hp)))))
end Mine
end
theorem Mine.walk_off_HP : True := by
  w_top off
  exact True.intro
section
open PySem PySem.W PyProof.Rows
set_option Elab.async false
set_option maxRecDepth 100000
set_option maxHeartbeats 8000000
namespace Mine
theorem lslice {prog : Program} {w : World} {A : Around} {E : Value → Shared → Prop} {s : Shared} {h₀ : Heap} {L l : Addr} {m : Str → Option Value} {news : List (Addr × Obj)} {value slice : PySem.Expr} {its : Array Value} {vl vu vs : Value} {lo hi st : Option Int} {Q : Value → Shared → Prop}
    (F : Fr h₀ L s.heap m) (N : News h₀ L s.heap news) (hl : s.heap.IsList l its) (pl : IsPart vl lo) (pu : IsPart vu hi) (ps : IsPart vs st) (h0 : st ≠ some 0)
    (h : ∀ D h', Fr h₀ L h' m → News h₀ L h' ((D, listOf (slicePick its lo hi st) 0) :: news) → (∀ p ∈ news, p.1 < D) → Q (.ref D) { s with heap := h' })
    (hs : subscripted slice false (.ref l) (.ref s.heap.objs.size) = operate [.ref l, .ref s.heap.objs.size] (getItem (.ref l) (.ref s.heap.objs.size)) := by with_unfolding_all rfl) (ht : ∀ r, letTemporaryGo value (.ref l) r = pure () := by intro _; with_unfolding_all rfl) (hz : its.size ≤ sizeLine) :
    wpAny (model prog w) A (subscriptTail value slice (.ref l) (.ref s.heap.objs.size)) Q E { s with heap := s.heap.push { cls := .type "slice", data := .fields #[vl, vu, vs] } } := by
  refine tail_of_ItemOn ⟨"list", _, list_getitem_lookup, (hl.push _).typeIs, ?_⟩ hs ht
  refine wpAny_getItem_list_slice (hl.push _) (Heap.IsSliceOf.new ..) pl pu ps h0 ?_ hz
  have F1 := F.push { cls := .type "slice", data := .fields #[vl, vu, vs] }
  have N1 := News.pushKeep N { cls := .type "slice", data := .fields #[vl, vu, vs] }
  exact h _ _ (F1.push _) (News.push F1 N1 _) (fun p hp => Heap.lt_size (N1 p hp).1)
theorem pick_ints {vs : List Value} {ns : List Int} (hi : IntsAre vs ns) : ∀ (l : List Nat), ∃ ms, IntsAre (l.filterMap fun i => vs.toArray[i]?) ms
  | [] => ⟨[], .nil⟩
  | i :: l => by
    obtain ⟨ms, h⟩ := pick_ints hi l
    by_cases hlt : i < ns.length
    · obtain ⟨t, e⟩ := hi.get i ns[i] (List.getElem?_eq_getElem hlt)
      have e' : vs.toArray[i]? = some (.int ns[i] t) := by simpa using e
      rw [List.filterMap_cons, e']
      exact ⟨_, .cons _ t h⟩
    · have e' : vs.toArray[i]? = none := by
        rw [List.getElem?_toArray]
        exact List.getElem?_eq_none (by rw [hi.length]; omega)
      rw [List.filterMap_cons, e']
      exact ⟨ms, h⟩
theorem c_heap {w : World} {p : Program} {loose : List Str} {mean : ExcName → Option Value} {mg mb : Str → Option Value}
  {dp un : Nat} {gd : Option (List Code)} {cn : Str} {cs : Scope} {a : Addr} {ccd : Value} {cl : List (Str × Addr)} {outer : List Env} {A₀ : Around} {base h₀ : Heap} {L : Addr} {m : Str → Option Value} {news : List (Addr × Obj)} {s : Shared} {Q E : Value → Shared → Prop}
  (B : Below A₀ base outer h₀) (F : Fr h₀ L s.heap m) (X : (hd.heap_39 w.params).In h₀) (N : News h₀ L s.heap news) (T : Top p loose mean mg mb h₀) (hk : cs.kind = .function)
  (hdp : dp + 20 < recursionLimit) (hu : un + 2000 < cLine)
  {sa : Addr} {vs : List Value} {ns : List Int} {place start : Int} {t1 t2 : Tok} (hS : h₀.IsList sa vs.toArray) (hi : IntsAre vs ns) (hz : vs.length ≤ 1000) (hp : 0 ≤ place ∧ place < 3)
  (hret : ∀ n t h' tk', Fr h₀ L h' m → News h₀ L h' news → Q (.int n t) { s with heap := h', toks := tk' }) :
  wpAny (model PySem.Challenge.rw_xi0006_01.row.prog w) (ktrTop dp un gd cn cs L a ccd cl outer) (call (.ref 122) [.ref sa, .int place t1, .int start t2]) Q E s := by
  k_with_none
  revert X; k_fill; intro X
  refine wpAny_call ?_
  k_dflt cell_enter
  (k_with "subscriptTail" => refine Stop.mk ?_)
  k_steps
  refine Stop.out ?_
  (with_reducible rename Fr _ _ _ _ => F9)
  (with_reducible rename News _ _ _ _ => N9)
  have hl9 : Heap.IsList _ sa vs.toArray := (let ⟨o, ho, r⟩ := hS; ⟨o, F9.keep _ _ ((by assumption : Fr h₀ L _ m).keep _ _ ho), r⟩)
  k_dflt (refine' lslice (s := ⟨_, _, _, _, _⟩) (lo := some place) (hi := none) (st := some 3) F9 N9 hl9 ?pl ?pu ?ps ?h0 ?h ?hs ?ht ?hz; (case pl => constructor); (case pu => constructor); (case ps => constructor); (case h0 => decide); (case hs => with_unfolding_all rfl); (case ht => (intro _; with_unfolding_all rfl)); (case hz => (rw [sizeLine_eq]; simp; omega)))
  intro D8 h8 F8 N8 l8
  obtain ⟨ms, hms⟩ := pick_ints hi (sliceRange (sliceBounds (some place) none (some 3) vs.toArray.size).1 (sliceBounds (some place) none (some 3) vs.toArray.size).2.1 (sliceBounds (some place) none (some 3) vs.toArray.size).2.2)
  (k_with "call builtin:sum" => k_dflt (refine' sumK ?k0 ?k1 ?k2 ?k3 hms ?_; (case k0 => rfl); (case k1 => k_asm); (case k2 => k_asm); (case k3 => exact ⟨_, (N8 _ (.head _)).1, rfl, _, rfl⟩); (intro h7 k7 t7 F7 N7)))
  k_steps
  exact hret _ _ _ _ (by assumption) (fun p hp => (by assumption : News h₀ L _ (_ :: news)) p (.tail _ hp))
end Mine
end
theorem Mine.walk_off_L0 : True := by
  w_top off
  exact True.intro
section
open PySem PySem.W PyProof.Rows
set_option Elab.async false
set_option maxRecDepth 100000
set_option maxHeartbeats 8000000
namespace Mine

/-- the law's body and scope -/
noncomputable def lawParts (p : Params) : Option (List Stmt × Scope) := match (hd.heap_39 p).lookup 163 with
  | some ⟨_, _, .func fd, _⟩ => match fd.body with
    | .stmts b => some (b, fd.scope)
    | _ => none
  | _ => none
/-- n statements from the i-th on -/
noncomputable def lawSeg (i n : Nat) (p : Params) : Option (List Stmt × Scope) := match lawParts p with
  | some (b, sc) => some ((b.drop i).take n, sc)
  | none => none
/-- the body of the for at i -/
noncomputable def lawFor (i : Nat) (p : Params) : Option (List Stmt × Scope) := match lawParts p with
  | some (b, sc) => match b.drop i with
    | .For _ _ bd _ _ :: _ => some (bd, sc)
    | _ => none
  | none => none
noncomputable def lawForSeg (i j n : Nat) (p : Params) : Option (List Stmt × Scope) := match lawFor i p with
  | some (b, sc) => some ((b.drop j).take n, sc)
  | none => none
theorem lkc {k : Str} {v : Value} {m : Str → Option Value} {l : List (Str × Value)} (h : m = lk l) : (fun y => if y = k then some v else m y) = lk ((k, v) :: l) := by
  subst h
  funext y
  by_cases h : y = k
  · subst h; simp [lk]
  · rw [if_neg h]
    show _ = List.lookup y ((k, v) :: l)
    rw [List.lookup_cons, beq_false_of_ne h]
theorem fr_lk {h₀ h : Heap} {L : Addr} {m : Str → Option Value} {l : List (Str × Value)} (F : Fr h₀ L h m) (e : m = lk l) : Fr h₀ L h (lk l) := e ▸ F
theorem fr_ub {h₀ h : Heap} {L : Addr} {m : Str → Option Value} {l : List (Str × Value)} (F : Fr h₀ L h m) (e : ∀ z v, l.lookup z = some v → m z = some v) : Fr h₀ L h (ub m l) := by
  rw [ub_eq e fun _ _ => rfl]; exact F
theorem news_sub {h₀ h : Heap} {L : Addr} {nw news : List (Addr × Obj)} (N : News h₀ L h nw) (hs : ∀ p ∈ news, p ∈ nw) : News h₀ L h news := fun p hp => N p (hs p hp)
theorem sub_app {l r all : List (Addr × Obj)} (h1 : ∀ p ∈ l, p ∈ all) (h2 : ∀ p ∈ r, p ∈ all) : ∀ p ∈ l ++ r, p ∈ all := fun p hp => (List.mem_append.mp hp).elim (h1 p) (h2 p)
theorem sub_l {l r : List (Addr × Obj)} : ∀ p ∈ l, p ∈ l ++ r := fun _ h => List.mem_append_left _ h
theorem sub_r {l r all : List (Addr × Obj)} (h : ∀ p ∈ all, p ∈ r) : ∀ p ∈ all, p ∈ l ++ r := fun p hp => List.mem_append_right _ (h p hp)
theorem ub_at {u : Str → Option Value} {l : List (Str × Value)} {z : Str} {v : Value} (h : l.lookup z = some v) : ub u l z = some v := by unfold ub; rw [h]
section
variable {prog : Program} {w : World} {A : Around} {E : Value → Shared → Prop} {s : Shared} {value slice : PySem.Expr} {h₀ : Heap} {L : Addr} {news : List (Addr × Obj)} {Q : Value → Shared → Prop}
theorem fits_of' {i : Int} (h1 : -1000000 ≤ i) (h2 : i ≤ 1000000) : fitsSsize i = true := by
  unfold fitsSsize
  have e1 : decide (i < -(2 ^ 63 : Int)) = false := decide_eq_false (by omega)
  have e2 : decide (i ≥ (2 ^ 63 : Int)) = false := decide_eq_false (by omega)
  rw [e1, e2]; rfl
/-- a sign of a written text -/
theorem pick_sign (l : List Nat) {x : Str} {t u : Tok} {i : Int} (hx : x.cps.toList = l) (h0 : 0 ≤ i) (h1 : i < l.length) (h2 : l.length ≤ 100) (h : ∀ c t k, c ∈ l → Q (.str ⟨#[c]⟩ t) { s with toks := k })
    (hs : subscripted slice false (.str x t) (.int i u) = operate [.str x t, .int i u] (getItem (.str x t) (.int i u)) := by with_unfolding_all rfl)
    (ht : ∀ r, letTemporaryGo value (.str x t) r = pure () := by intro _; with_unfolding_all rfl) :
    wpAny (model prog w) A (subscriptTail value slice (.str x t) (.int i u)) Q E s := by
  have hlen : x.length = l.length := by rw [← hx]; simp [Str.length]
  have hlt : i.toNat < l.length := by omega
  have hc : x.cps[i.toNat]? = some l[i.toNat] := by
    rw [← Array.getElem?_toList, hx]; exact List.getElem?_eq_getElem hlt
  refine item_str (fits_of' (by omega) (by omega)) (by omega) (by omega) (fun _ => ?_) hs ht
  rw [item_meets h0 hc]
  exact h _ _ _ (List.getElem_mem hlt)
/-- an item of a made list -/
theorem item_made {D : Addr} {its : Array Value} {u : Tok} {n : Nat} {k : Int} {v : Value} (N : News h₀ L s.heap news) (hm : (D, listOf its n) ∈ news) (h0 : 0 ≤ k) (h1 : k < 2 ^ 63) (hx : its.toList[k.toNat]? = some v) (h : Q v s)
    (hs : subscripted slice false (.ref D) (.int k u) = operate [.ref D, .int k u] (getItem (.ref D) (.int k u)) := by with_unfolding_all rfl) :
    wpAny (model prog w) A (subscriptTail value slice (.ref D) (.int k u)) Q E s :=
  tail_any (show s.heap.IsList D its from ⟨_, (N _ hm).1, rfl, n, rfl⟩).typeIs slot_list_getitem.lookup (wpAny_getItem_list (show s.heap.IsList D its from ⟨_, (N _ hm).1, rfl, n, rfl⟩) h0 h1 (by rw [← Array.getElem?_toList]; exact hx) h) hs
/-- one of two written texts -/
theorem pick2 {D : Addr} {x y : Str} {t1 t2 u : Tok} {n : Nat} {k : Int} (N : News h₀ L s.heap news) (hm : (D, listOf #[.str x t1, .str y t2] n) ∈ news) (h0 : 0 ≤ k) (h1 : k < 2) (hx : x.length ≤ 2) (hy : y.length ≤ 2) (h : ∀ z t, (z = x ∨ z = y) → z.length ≤ 2 → Q (.str z t) s)
    (hs : subscripted slice false (.ref D) (.int k u) = operate [.ref D, .int k u] (getItem (.ref D) (.int k u)) := by with_unfolding_all rfl) :
    wpAny (model prog w) A (subscriptTail value slice (.ref D) (.int k u)) Q E s := by
  refine tail_any ((show s.heap.IsList D #[.str x t1, .str y t2] from ⟨_, (N _ hm).1, rfl, n, rfl⟩)).typeIs slot_list_getitem.lookup ?_ hs
  have : k = 0 ∨ k = 1 := by omega
  rcases this with rfl | rfl
  · exact wpAny_getItem_list ((show s.heap.IsList D #[.str x t1, .str y t2] from ⟨_, (N _ hm).1, rfl, n, rfl⟩)) (by decide) (by decide) rfl (h _ _ (.inl rfl) hx)
  · exact wpAny_getItem_list ((show s.heap.IsList D #[.str x t1, .str y t2] from ⟨_, (N _ hm).1, rfl, n, rfl⟩)) (by decide) (by decide) rfl (h _ _ (.inr rfl) hy)
/-- a number's figures -/
noncomputable def nt (n : Nat) : Str := Str.ofString (toString ((n : Nat) : Int))
theorem nt_len {n : Nat} (h : n < 2 ^ 110) : (nt n).length ≤ 40 := by
  have := PySem.int_text_length_le10 (a := (n : Int)) (k := 39) (by decide) (by rw [Int.natAbs_natCast]; exact Nat.lt_trans h (by decide))
  unfold nt
  rw [PySem.ofString_length]
  exact this
theorem abs_nat {a : Int} {t : Tok} (h : ∀ u tk, Q (.int ((a.natAbs : Nat) : Int) u) { s with toks := tk }) : wpAny (model prog w) A (call (.builtin "abs") [.int a t]) Q E s := by
  refine call_abs_int fun u tk => ?_
  have e : (if a < 0 then -a else a) = ((a.natAbs : Nat) : Int) := by split <;> omega
  rw [e]; exact h u tk
theorem str_nat {n : Nat} {t : Tok} (hn : n < 2 ^ 110) (h : ∀ u tk, (nt n).length ≤ 40 → Q (.str (nt n) u) { s with toks := tk }) : wpAny (model prog w) A (call (.type "str") [.int ((n : Nat) : Int) t]) Q E s := by
  refine PySem.P.str_of_int ?_ (h _ _ (nt_len hn))
  rw [Int.natAbs_natCast]
  by_cases h0 : n = 0
  · subst h0; decide
  · exact Nat.lt_of_lt_of_le ((Nat.log2_lt h0).mpr hn) (by decide)
theorem starEach_BinOp {a b : PySem.Expr} {op : Operator} {p : Pos} {rest : List PySem.Expr} {env : Env} : starEach (.BinOp a op b p :: rest) env = (false, eval (.BinOp a op b p) env) :: starEach rest env := rfl
theorem len_one (c : Nat) : (⟨#[c]⟩ : Str).length = 1 := rfl
end
/-- a port's text: a blank or none, the sign, two noughts or none, the figures -/
noncomputable def PortT (p : Str) (n : Int) : Prop := ∃ sp pl ze : Str, (sp = Str.ofString "" ∨ sp = Str.ofString " ") ∧ ((n < 0 ∧ pl = Str.ofString "-") ∨ (0 ≤ n ∧ (pl = Str.ofString "" ∨ pl = Str.ofString "+"))) ∧ (ze = Str.ofString "" ∨ ze = Str.ofString "00") ∧ p = sp ++ pl ++ ze ++ nt n.natAbs
theorem execs_app_eq {env : Env} (r : List Stmt) : ∀ (l : List Stmt), execs (l ++ r) env = (execs l env >>= fun f => match f with | .next => execs r env | f => pure f)
  | [] => rfl
  | st :: l => by
    rw [List.cons_append, PySem.execs_cons, PySem.execs_cons, bind_assoc]
    congr 1
    funext f
    cases f with
    | next => exact execs_app_eq r l
    | ret v => rfl
    | brk => rfl
    | cont => rfl
theorem execs_app {M : Model} {A : Around} {E : Value → Shared → Prop} {Q : Flow → Shared → Prop} {env : Env} {l r : List Stmt} {s : Shared}
    (h : wpAny M A (execs l env) (fun f s' => match f with | .next => wpAny M A (execs r env) Q E s' | f => Q f s') E s) : wpAny M A (execs (l ++ r) env) Q E s := by
  rw [execs_app_eq]
  refine wpAny_bind (wpAny_mono h (fun f s' h' => ?_) fun _ _ e => e)
  cases f with
  | next => exact h'
  | ret v => exact wpAny_pure h'
  | brk => exact wpAny_pure h'
  | cont => exact wpAny_pure h'
end Mine
end
theorem Mine.walk_off_LA : True := by
  w_top off
  exact True.intro
section
open PySem PySem.W PyProof.Rows
set_option Elab.async false
set_option maxRecDepth 100000
set_option maxHeartbeats 8000000
namespace Mine
theorem pow29 {prog : Program} {w : World} {A : Around} {E : Value → Shared → Prop} {s : Shared} {t u : Tok} {Q : Value → Shared → Prop} (h : Q (.int 100000000000000000000000000000 s.toks) { s with toks := s.toks + 1 }) : wpAny (model prog w) A (binaryOp .Pow (.int 10 t) (.int 29 u)) Q E s :=
  pow_int_small (by decide) (by decide) (by decide) (by rw [show (10 : Int) ^ (29 : Int).toNat = 100000000000000000000000000000 by decide +kernel]; exact h)
theorem pow30 {prog : Program} {w : World} {A : Around} {E : Value → Shared → Prop} {s : Shared} {t u : Tok} {Q : Value → Shared → Prop} (h : Q (.int 1000000000000000000000000000000 s.toks) { s with toks := s.toks + 1 }) : wpAny (model prog w) A (binaryOp .Pow (.int 10 t) (.int 30 u)) Q E s :=
  pow_int_small (by decide) (by decide) (by decide) (by rw [show (10 : Int) ^ (30 : Int).toNat = 1000000000000000000000000000000 by decide +kernel]; exact h)
/-- a base within its bounds -/
noncomputable def Bnd (b : Int) : Prop := b.natAbs < 2 ^ 100
theorem sub_bnd {prog : Program} {w : World} {A : Around} {E : Value → Shared → Prop} {s : Shared} {t u : Tok} {Q : Value → Shared → Prop} {x y z : Int} (hy : y = 500000000000000000000000000000) (hz : z = 1000000000000000000000000000000) (h : ∀ b t k, Bnd b → Q (.int b t) { s with toks := k }) : wpAny (model prog w) A (binaryOp .Sub (.int (Int.fmod x z) t) (.int y u)) Q E s := by
  subst hy; subst hz
  refine sub_int ?_
  have h1 := Int.fmod_nonneg_of_pos x (show (0 : Int) < 1000000000000000000000000000000 by decide)
  have h2 := Int.fmod_lt_of_pos x (show (0 : Int) < 1000000000000000000000000000000 by decide)
  refine h _ _ _ ?_
  unfold Bnd
  omega
theorem add_unit {prog : Program} {w : World} {A : Around} {E : Value → Shared → Prop} {s : Shared} {t u : Tok} {Q : Value → Shared → Prop} {x z : Int} (hz : z = 65536) (h : ∀ b t k, 1 ≤ b → b ≤ 65536 → Q (.int b t) { s with toks := k }) : wpAny (model prog w) A (binaryOp .Add (.int 1 t) (.int (Int.fmod x z) u)) Q E s := by
  subst hz
  refine add_int ?_
  have h1 := Int.fmod_nonneg_of_pos x (show (0 : Int) < 65536 by decide)
  have h2 := Int.fmod_lt_of_pos x (show (0 : Int) < 65536 by decide)
  exact h _ _ _ (by omega) (by omega)
theorem back_bnd {u : Int} (h1 : 1 ≤ u) (h2 : u ≤ 65536) : 3 ≤ ((Builtin.Int.intBits u : Nat) : Int) + 2 ∧ ((Builtin.Int.intBits u : Nat) : Int) + 2 ≤ 19 := by
  have a := (intBits_lt u (by omega)).2.2
  have b := intBits_le u 17 (by omega) (by omega)
  omega
theorem law_a {w : World} {p : Program} {loose : List Str} {mean : ExcName → Option Value} {mg mb : Str → Option Value} {dp un : Nat} {gd : Option (List Code)} {a : Addr} {ccd : Value} {A₀ : Around} {h₀ : Heap} {L : Addr} {s : Shared} {Q : Flow → Shared → Prop} {E : Value → Shared → Prop} {cs : Scope} {sa : Addr} {vs : List Value} {ns : List Int} {st0 st1 st2 st3 st4 st5 : Stmt}
  (B : Below A₀ h₀ [] h₀) (F : Fr h₀ L s.heap (lk [(Str.ofString "script", .ref sa)])) (X : (hd.heap_39 w.params).In h₀) (N : News h₀ L s.heap ([(47, tabObj #[])])) (T : Top p loose mean mg mb h₀) (hp : lawSeg 0 6 w.params = some ([st0, st1, st2, st3, st4, st5], cs))
  (hdp : dp + 100 < recursionLimit) (hu : un + 9000 < cLine) (hC : CodeHd h₀ 51 47) (hS : h₀.IsList sa vs.toArray) (hi : IntsAre vs ns) (hz : ns.length ≤ 63) (l0 : 47 < L)
  (hret : ∀ (b u sh d : Int) t1 t2 t3 t4 r h' tk' m', Bnd b → 1 ≤ u → u ≤ 65536 → 47 < r → 0 ≤ d → d < 24 →
    Fr h₀ L h' (ub m' [(Str.ofString "ring", .ref r), (Str.ofString "dress", .int d t4), (Str.ofString "shape", .int sh t3), (Str.ofString "unit", .int u t2), (Str.ofString "base", .int b t1), (Str.ofString "script", .ref sa)]) →
    News h₀ L h' [(r, listOf #[] 0), (47, tabObj #[])] → Q .next { s with heap := h', toks := tk' }) :
  wpAny (model PySem.Challenge.rw_xi0006_01.row.prog w) (ktrTop dp un gd (Str.ofString "law") cs L a ccd [] []) (execs [st0, st1, st2, st3, st4, st5] (envX (Str.ofString "law") cs L a ccd [])) Q E s := by
  refine' use_parts hp (y := ([?a0, ?a1, ?a2, ?a3, ?a4, ?a5], Scope.mk ?k ?n ?g ?c ?mo)) ?e ?_
  case e => k_dflt (unfold lawSeg lawParts; rfl)
  intro e9
  cases e9
  have hvz : vs.length ≤ 1000 := by rw [hi.length]; omega
  k_with_none
  revert X; k_fill; intro X
  (k_with "binaryOp Pow int int" => ((with_reducible show wpAny _ _ (binaryOp _ _ (Value.int 29 _)) _ _ _); k_dflt (refine pow29 ?_); (try dsimp only)))
  (k_with "binaryOp Pow int int" => ((with_reducible show wpAny _ _ (binaryOp _ _ (Value.int 30 _)) _ _ _); k_dflt (refine pow30 ?_); (try dsimp only)))
  (k_with "binaryOp Sub int int" => ((with_reducible show wpAny _ _ (binaryOp _ (Value.int (Int.fmod _ _) _) _) _ _ _); k_dflt (refine sub_bnd (by decide) (by decide) ?_; intro bb bt bk hbb; (try dsimp only))))
  (k_with "binaryOp Add int int" => ((with_reducible show wpAny _ _ (binaryOp _ (Value.int 1 _) (Value.int (Int.fmod _ _) _)) _ _ _); k_dflt (refine add_unit (by decide) ?_; intro ub ut uk hu1 hu2; (try dsimp only))))
  (k_with "call ref" => ((with_reducible show wpAny _ _ (call (Value.ref 122) _) _ _ _); k_dflt (refine' c_heap ?k1 ?k2 ?k3 ?k4 ?k5 ?kK ?kd ?ku ?q0 ?q1 ?q2 ?q3 ?_; (case k1 => k_asm); (case k2 => k_asm); (case k3 => k_asm); (case k4 => k_asm); (case k5 => k_asm); (case kK => rfl); (case kd => ktr_room); (case ku => ktr_units); (case q0 => exact hS); (case q1 => exact hi); (case q2 => exact hvz); (case q3 => decide); (intro hn ht h9 tk9 F9 N9); (try dsimp only))))
  (k_with "call ref" => ((with_reducible show wpAny _ _ (call (Value.ref 151) _) _ _ _); k_dflt (refine' c_back ?k1 ?k2 ?k3 ?k4 ?k5 ?kK ?kd ?ku ?q0 ?q1 ?_; (case k1 => k_asm); (case k2 => k_asm); (case k3 => k_asm); (case k4 => k_asm); (case k5 => k_asm); (case kK => rfl); (case kd => ktr_room); (case ku => ktr_units); (case q0 => exact (back_bnd (by assumption) (by assumption)).1); (case q1 => exact (back_bnd (by assumption) (by assumption)).2); (intro h9 tk9 F9 N9); (try dsimp only))))
  k_steps
  k_dflt (refine' hret _ _ _ _ _ _ _ _ _ _ _ _ ?b ?u1 ?u2 ?r ?d1 ?d2 ?F ?N; (case b => assumption); (case u1 => assumption); (case u2 => assumption); (case r => assumption); (case F => (refine fr_ub (by with_reducible assumption) ?_; (repeat' (first | exact lkup0 | refine lkupc ?_ ?_)) <;> rfl)); (case d1 => exact Int.fmod_nonneg_of_pos _ (by decide)); (case d2 => exact Int.fmod_lt_of_pos _ (by decide)); (case N => assumption))
end Mine
end
theorem Mine.walk_off_LB : True := by
  w_top off
  exact True.intro
section
open PySem PySem.W PyProof.Rows
set_option Elab.async false
set_option maxRecDepth 100000
set_option maxHeartbeats 8000000
namespace Mine
theorem litLB_0 : (Str.ofString "-").length = 1 := by decide +kernel
theorem litLB_1 : (Str.ofString "+").length = 1 := by decide +kernel
theorem litLB_2 : (Str.ofString "").length = 0 := by decide +kernel
theorem litLB_3 : (Str.ofString " ").length = 1 := by decide +kernel
theorem litLB_4 : (Str.ofString "00").length = 2 := by decide +kernel
theorem law_b1 {w : World} {p : Program} {loose : List Str} {mean : ExcName → Option Value} {mg mb : Str → Option Value} {dp un : Nat} {gd : Option (List Code)} {a : Addr} {ccd : Value} {A₀ : Around} {h₀ : Heap} {L : Addr} {s : Shared} {Q : Flow → Shared → Prop} {E : Value → Shared → Prop} {cs : Scope} {u : Str → Option Value} {news : List (Addr × Obj)} {r sa : Addr} {v d sh un0 b : Int} {t0 t1 t2 t3 t4 : Tok} {vs : List Value} {k : Nat} {st0 st1 st2 st3 : Stmt}
  (B : Below A₀ h₀ [] h₀) (F : Fr h₀ L s.heap (ub u [(Str.ofString "units", .int v t0), (Str.ofString "ring", .ref r), (Str.ofString "dress", .int d t1), (Str.ofString "shape", .int sh t2), (Str.ofString "unit", .int un0 t3), (Str.ofString "base", .int b t4), (Str.ofString "script", .ref sa)])) (X : (hd.heap_39 w.params).In h₀) (N : News h₀ L s.heap (news)) (T : Top p loose mean mg mb h₀) (hp : lawForSeg 6 0 4 w.params = some ([st0, st1, st2, st3], cs))
  (hdp : dp + 100 < recursionLimit) (hu : un + 9000 < cLine) (hr : (r, listOf vs.toArray k) ∈ news) (hv : vs.length ≤ 3) (h1 : -7 ≤ v ∧ v ≤ 7) (h2 : 0 ≤ d ∧ d < 24) (h3 : 1 ≤ un0 ∧ un0 ≤ 65536) (hnb : (b + v * un0).natAbs < 2 ^ 110)
  (hret : ∀ c p' t5 t6 t7 h' tk' m', c ∈ [124, 47, 33, 61] → PortT p' (b + v * un0) →
    Fr h₀ L h' (ub m' ((Str.ofString "number", .int (b + v * un0) t5) :: (Str.ofString "mark", .str ⟨#[c]⟩ t6) :: (Str.ofString "port", .str p' t7) :: [(Str.ofString "units", .int v t0), (Str.ofString "ring", .ref r), (Str.ofString "dress", .int d t1), (Str.ofString "shape", .int sh t2), (Str.ofString "unit", .int un0 t3), (Str.ofString "base", .int b t4), (Str.ofString "script", .ref sa)])) →
    News h₀ L h' news → Q .next { s with heap := h', toks := tk' }) :
  wpAny (model PySem.Challenge.rw_xi0006_01.row.prog w) (ktrTop dp un gd (Str.ofString "law") cs L a ccd [] []) (execs [st0, st1, st2, st3] (envX (Str.ofString "law") cs L a ccd [])) Q E s := by
  refine' use_parts hp (y := ([?sta0, ?sta1, ?sta2, ?sta3], Scope.mk ?sc1 ?sc2 ?sc3 ?sc4 ?sc5)) ?e ?_
  case e => k_dflt (unfold lawForSeg lawFor lawParts; rfl)
  intro e9
  cases e9
  obtain ⟨h1a, h1b⟩ := h1
  obtain ⟨h2a, h2b⟩ := h2
  obtain ⟨h3a, h3b⟩ := h3
  have hb3 := intBits_le un0 64 (by omega) (by omega)
  k_with_none
  revert X; k_fill; intro X
  (k_with "call builtin:len" => ((with_reducible rename News _ _ _ _ => N9); k_dflt (refine len_list ⟨_, (N9 _ (by (first | exact hr | exact .tail _ (hr) | exact .tail _ (.tail _ (hr)) | exact .tail _ (.tail _ (.tail _ (hr))) | exact .tail _ (.tail _ (.tail _ (.tail _ (hr)))) | exact .tail _ (.tail _ (.tail _ (.tail _ (.tail _ (hr)))))))).1, rfl, _, rfl⟩ (by simp; omega) ?_); (try dsimp only)))
  (k_with "subscriptTail Constant str BinOp str int" => ((with_reducible show wpAny _ _ (subscriptTail _ _ (Value.str (Str.ofString "|/!=") _) _) _ _ _); k_dflt (refine pick_sign [124, 47, 33, 61] (by decide +kernel) ?i0 ?i1 (by decide) ?_; (case i0 => first | omega | exact Int.fmod_nonneg_of_pos _ (by decide)); (case i1 => first | (simp only [List.length_cons, List.length_nil]; omega) | exact Int.fmod_lt_of_pos _ (by decide)); (intro mk t9 k9 mkh; (try dsimp only)))))
  (k_with "subscriptTail Name BinOp ref int" => ((with_reducible rename News _ _ _ _ => N9); k_dflt (refine pick2 N9 (by k_mem) ?i0 ?i1 ?l0 ?l1 ?_; (case i0 => first | omega | exact Int.fmod_nonneg_of_pos _ (by decide)); (case i1 => first | omega | exact Int.fmod_lt_of_pos _ (by decide)); (case l0 => decide +kernel); (case l1 => decide +kernel); (intro z9 t9 hz9 lz9; (try dsimp only)))))
  (k_with "binaryOp Add str str" => k_dflt (refine add_str ?_ ?hsz; (case hsz => (simp only [PySem.Str.length_append, len_one, litLB_0, litLB_1, litLB_2, litLB_3, litLB_4]; rw [sizeLine_eq]; omega)); intro t9 k9; (try dsimp only)))
  (k_with "call builtin:abs" => k_dflt (refine abs_nat ?_; intro t9 k9; (try dsimp only)))
  (k_with "call type:str" => k_dflt (refine str_nat ?hn ?_; (case hn => exact hnb); intro t9 k9 ln9; (try dsimp only)))
  k_steps
  all_goals (k_dflt (refine' hret _ _ _ _ _ _ _ _ ?zc ?zp ?zF ?zN; (case zc => assumption); (case zF => (refine fr_ub (by with_reducible assumption) ?_; (repeat' (first | exact lkup0 | refine lkupc ?_ ?_)) <;> rfl)); (case zN => (refine news_sub (by with_reducible assumption) ?_; (repeat' (first | with_reducible_and_instances apply sub_refl | refine sub_cons (by with_reducible_and_instances k_mem) ?_ | refine sub_skip ?_)))); (case zp => (refine ⟨_, _, _, ?pa, ?pb, ?pc, rfl⟩; (case pa => assumption); (case pc => assumption); (case pb => first | exact .inl ⟨by assumption, rfl⟩ | exact .inr ⟨by omega, by assumption⟩)))))
end Mine
end
theorem Mine.walk_off_LB2 : True := by
  w_top off
  exact True.intro
section
open PySem PySem.W PyProof.Rows
set_option Elab.async false
set_option maxRecDepth 100000
set_option maxHeartbeats 8000000
namespace Mine
theorem litLB2_0 : (Str.ofString "229 :) (").length = 8 := by decide +kernel
theorem litLB2_1 : (Str.ofString "B").length = 1 := by decide +kernel
theorem litLB2_2 : (Str.ofString ") (|||9|)").length = 9 := by decide +kernel
noncomputable def rtext (c : Nat) (p : Str) : Str := Str.ofString "229 :) (" ++ ⟨#[c]⟩ ++ Str.ofString "B" ++ ⟨#[c]⟩ ++ ⟨#[c]⟩ ++ p ++ ⟨#[c]⟩ ++ Str.ofString ") (|||9|)"
theorem apl_head : ∀ (n : Nat), apl n = [] ∨ ∃ d r, apl n = d :: r ∧ d ≠ 65 := by
  intro n
  induction n using Nat.strongRecOn with
  | _ n ih =>
    by_cases h0 : n = 0
    · subst h0; exact .inl apl_zero
    · right
      rw [apl_pos h0]
      rcases ih (n / 16) (by omega) with h | ⟨d, r, h, hd⟩
      · rw [h]
        refine ⟨_, [], rfl, ?_⟩
        have h1 : n / 16 = 0 := by
          apply Decidable.byContradiction; intro h1
          rw [apl_pos h1] at h
          simp at h
        have h2 : n % 16 = n := by omega
        rw [h2]
        intro e
        have e2 := congrArg UInt8.toNat e
        rw [UInt8.toNat_ofNat'] at e2
        have e3 : (65 : UInt8).toNat = 65 := rfl
        rw [e3] at e2
        omega
      · rw [h]
        exact ⟨d, _, rfl, hd⟩
theorem not65 (n : Nat) : (((apl n).take 1).toArray.toList == #[65].toList) = false := by
  rcases apl_head n with h | ⟨d, r, h, hd⟩
  · rw [h]; rfl
  · rw [h]
    simp [hd]
theorem tab_47 {tab : List (Addr × Obj)} (h : Tab tab) : ∃ o, (47, o) ∈ tab := by
  cases h with
  | fresh => exact ⟨_, .head _⟩
  | full => exact ⟨_, .tail _ (.head _)⟩
theorem apl_rng : ∀ (n : Nat), ∀ c ∈ apl n, 65 ≤ c.toNat ∧ c.toNat < 81 := by
  intro n
  induction n using Nat.strongRecOn with
  | _ n ih =>
    by_cases h0 : n = 0
    · subst h0; rw [apl_zero]; intro c h; cases h
    · rw [apl_pos h0]
      intro c hc
      rcases List.mem_append.mp hc with h | h
      · exact ih (n / 16) (by omega) c h
      · rw [List.mem_singleton.mp h, UInt8.toNat_ofNat']
        omega
theorem apl_num : ∀ (n : Nat), numOf ((apl n).reverse.map fun c => (c.toNat : Int) - 65) = (n : Int) := by
  intro n
  induction n using Nat.strongRecOn with
  | _ n ih =>
    by_cases h0 : n = 0
    · subst h0; rw [apl_zero]; rfl
    · rw [apl_pos h0, List.reverse_append, List.reverse_singleton, List.map_append, List.map_singleton]
      show (((UInt8.ofNat (65 + n % 16)).toNat : Int) - 65) + 16 * numOf (List.map (fun c : UInt8 => (c.toNat : Int) - 65) (apl (n / 16)).reverse) = _
      rw [ih (n / 16) (by omega), UInt8.toNat_ofNat']
      omega
theorem sub_app2 {l r : List (Addr × Obj)} {a : Addr} (h1 : ∀ p ∈ l, p.1 ≠ a) (h2 : ∀ p ∈ r, p.1 ≠ a) : ∀ p ∈ l ++ r, p.1 ≠ a := fun p hp => (List.mem_append.mp hp).elim (h1 p) (h2 p)
theorem off2_cons {a : Addr} {o : Obj} {tab news : List (Addr × Obj)} (h1 : ∀ q ∈ tab, a ≠ q.1) (h2 : Off2 tab news) : Off2 tab ((a, o) :: news) := fun q hq => List.forall_mem_cons.mpr ⟨h1 q hq, h2 q hq⟩
theorem cut_one (l : List UInt8) : ((l.toArray.toList.drop ((none : Option Int).elim 0 (clipAt l.toArray.size))).take ((some (1 : Int)).elim l.toArray.size (clipAt l.toArray.size) - (none : Option Int).elim 0 (clipAt l.toArray.size))).toArray = (l.take 1).toArray := by
  cases l with
  | nil => rfl
  | cons d r =>
    congr 1
    show ((d :: r).drop 0).take (clipAt (d :: r).toArray.size 1 - 0) = _
    have : clipAt (d :: r).toArray.size 1 = 1 := by simp [clipAt]; omega
    rw [this]; rfl
theorem law_b2 {w : World} {p : Program} {loose : List Str} {mean : ExcName → Option Value} {mg mb : Str → Option Value} {dp un : Nat} {gd : Option (List Code)} {a : Addr} {ccd : Value} {A₀ : Around} {h₀ : Heap} {L : Addr} {s : Shared} {Q : Flow → Shared → Prop} {E : Value → Shared → Prop} {cs : Scope} {u : Str → Option Value} {news tab : List (Addr × Obj)} {r sa : Addr} {n d sh un0 b : Int} {c : Nat} {p9 : Str} {t1 t2 t3 t4 t5 t6 t7 : Tok} {vs : List Value} {k : Nat} {st0 st1 st2 st3 : Stmt}
  (B : Below A₀ h₀ [] h₀) (F : Fr h₀ L s.heap (ub u [(Str.ofString "number", .int n t5), (Str.ofString "mark", .str ⟨#[c]⟩ t6), (Str.ofString "port", .str p9 t7), (Str.ofString "ring", .ref r), (Str.ofString "dress", .int d t1), (Str.ofString "shape", .int sh t2), (Str.ofString "unit", .int un0 t3), (Str.ofString "base", .int b t4), (Str.ofString "script", .ref sa)])) (X : (hd.heap_39 w.params).In h₀) (N : News h₀ L s.heap (tab ++ ((r, listOf vs.toArray k) :: news))) (T : Top p loose mean mg mb h₀) (hp : lawForSeg 6 4 4 w.params = some ([st0, st1, st2, st3], cs))
  (hdp : dp + 100 < recursionLimit) (hu : un + 9000 < cLine) (hC : CodeHd h₀ 51 47) (hT : Tab tab) (h47 : ∀ p ∈ (r, listOf vs.toArray k) :: news, p.1 ≠ 47) (hoff : Off2 tab ((r, listOf vs.toArray k) :: news)) (hrn : ∀ p ∈ news, p.1 ≠ r) (hv : vs.length ≤ 3) (hn : n.natAbs < 2 ^ 110) (hp9 : p9.length ≤ 100) (hr : r229 (rtext c p9) = some (.port n))
  (hret : ∀ tab' (t8 : Tok) k' h' tk' m', Tab tab' → Off2 tab' ((r, listOf (vs ++ [Value.int n t8]).toArray k') :: news) →
    Fr h₀ L h' (ub m' [(Str.ofString "ring", .ref r), (Str.ofString "dress", .int d t1), (Str.ofString "shape", .int sh t2), (Str.ofString "unit", .int un0 t3), (Str.ofString "base", .int b t4), (Str.ofString "script", .ref sa)]) →
    News h₀ L h' (tab' ++ ((r, listOf (vs ++ [Value.int n t8]).toArray k') :: news)) → Q .next { s with heap := h', toks := tk' }) :
  wpAny (model PySem.Challenge.rw_xi0006_01.row.prog w) (ktrTop dp un gd (Str.ofString "law") cs L a ccd [] []) (execs [st0, st1, st2, st3] (envX (Str.ofString "law") cs L a ccd [])) Q E s := by
  refine' use_parts hp (y := ([?sta0, ?sta1, ?sta2, ?sta3], Scope.mk ?sc1 ?sc2 ?sc3 ?sc4 ?sc5)) ?e ?_
  case e => k_dflt (unfold lawForSeg lawFor lawParts; rfl)
  intro e9
  cases e9
  k_with_none
  revert X; k_fill; intro X
  (k_with "call builtin:abs" => k_dflt (refine abs_nat ?_; intro t9 k9; (try dsimp only)))
  (k_with "call ref" => refine Stop.mk ?_)
  (k_with "binaryOp Add str str" => k_dflt (refine add_str ?_ ?hsz; (case hsz => (simp only [PySem.Str.length_append, len_one, litLB2_0, litLB2_1, litLB2_2]; rw [sizeLine_eq]; omega)); intro t9 k9; (try dsimp only)))
  (k_with "callWith ref" => ((with_reducible show wpAny _ _ (callWith _ _ _ (backTo _ (starEach (PySem.Expr.BinOp _ _ _ _ :: _) _)) []) _ _ _); k_dflt (refine' callWith_K ?k1 ?k2 ?_ starEach_BinOp ?hpl; (case k1 => k_asm); (case k2 => k_is); (case hpl => rfl))))
  k_steps
  refine Stop.out ?_
  (with_reducible rename Fr _ _ _ _ => F1)
  (with_reducible rename News _ _ _ _ => N1)
  k_dflt (refine' c_read ?k1 F1 ?k3 N1 ?k5 ?kK ?kd ?ku ?hp ?hx hr ?_)
  case k1 => k_asm
  case k3 => k_asm
  case k5 => k_asm
  case kK => rfl
  case kd => ktr_room
  case ku => ktr_units
  case hp => k_mem
  case hx => (simp only [PySem.Str.length_append, len_one, litLB2_0, litLB2_1, litLB2_2]; omega)
  intro a2 tk2 h2 k2 F2 N2 l2
  try dsimp only
  dsimp only [outObj] at N2
  k_steps
  refine Stop.out ?_
  (with_reducible rename Fr _ _ _ _ => F3)
  (with_reducible rename News _ _ _ _ => N3)
  k_dflt (refine' c_ap ?k1 F3 ?k3 N3 ?k5 ?kK ?kd ?ku hn ?_)
  case k1 => k_asm
  case k3 => k_asm
  case k5 => k_asm
  case kK => rfl
  case kd => ktr_room
  case ku => ktr_units
  intro tk4 h4 k4 F4 N4
  (k_with "subscriptTail" => refine Stop.mk ?_)
  try dsimp only
  k_steps
  refine Stop.out ?_
  (with_reducible rename Fr _ _ _ _ => F5)
  (with_reducible rename News _ _ _ _ => N5)
  (k_with "compareOp Eq bytes bytes" => k_dflt (refine eq_bytes ?_; rw [not65 n.natAbs]))
  k_dflt (refine' bslice (s := ⟨_, _, _, _, _⟩) ((apl n.natAbs).take 1).toArray F5 N5 IsPart.none (IsPart.int _ _) ?bz ?br ?_; (case bz => (rw [List.size_toArray]; have := apl_length 28 n.natAbs (Nat.lt_trans hn (by decide)); omega)); (case br => exact cut_one _))
  intro h6 tk6 k6 F6 N6
  (try dsimp only)
  k_steps
  refine Stop.out ?_
  (with_reducible rename Fr _ _ _ _ => F7)
  (with_reducible rename News _ _ _ _ => N7)
  obtain ⟨o47, ho47⟩ := tab_47 hT
  have g47 : 47 < a2 := l2 (47, o47) (.tail _ (List.mem_append_left _ ho47))
  have gr : r < a2 := l2 (r, listOf vs.toArray k) (.tail _ (List.mem_append_right _ (.head _)))
  have N7' : News h₀ L _ (tab ++ ((a2, ({ cls := .type "tuple", data := .seq #[.str (Str.ofString "C") _, .int n tk2] } : Obj)) :: (r, listOf vs.toArray k) :: news)) := news_sub N7 (sub_app (by (repeat (refine sub_skip ?_)); exact sub_l) (sub_cons (by k_mem) (by (repeat (refine sub_skip ?_)); exact sub_r sub_refl)))
  k_dflt (refine' c_number ?k1 F7 ?k3 (news_sub N7' (sub_r sub_refl)) ?k5 ?kK ?kd ?ku hC hT N7' ?h47 ?hoff (apl_rng _) ?hl ?_)
  case k1 => k_asm
  case k3 => k_asm
  case k5 => k_asm
  case kK => rfl
  case kd => ktr_room
  case ku => ktr_units
  case h47 => exact List.forall_mem_cons.mpr ⟨(Nat.ne_of_lt g47).symm, h47⟩
  case hoff => exact off2_cons (fun q hq => (Nat.ne_of_lt (l2 q (.tail _ (List.mem_append_left _ hq)))).symm) hoff
  case hl => (have := apl_length 28 n.natAbs (Nat.lt_trans hn (by decide)); omega)
  intro tk8 tab8 h8 k8 hT8 hO8 F8 N8
  rw [apl_num]
  replace N8 := news_sub N8 (show ∀ p ∈ ((a2, ({ cls := .type "tuple", data := .seq #[.str (Str.ofString "C") _, .int n tk2] } : Obj)) :: (r, listOf vs.toArray k) :: (tab8 ++ news)), _ from sub_cons (List.mem_append_right _ (.head _)) (sub_cons (List.mem_append_right _ (.tail _ (.head _))) (sub_app sub_l (sub_r (sub_skip (sub_skip sub_refl))))))
  (try dsimp only)
  have hr8 : ∀ p ∈ tab8, p.1 ≠ r := fun q hq => (hO8 q hq _ (.tail _ (.head _))).symm
  have hall : ∀ p ∈ tab8 ++ news, p.1 ≠ r := sub_app2 hr8 hrn
  have hne2 : a2 ≠ r := (Nat.ne_of_lt gr).symm
  k_steps
  · exact absurd rfl (by assumption)
  refine Stop.out ?_
  k_dflt (refine' item_tuple (j := 1) (x := .int n tk2) (items := #[.str (Str.ofString "C") _, .int n tk2]) ⟨_, (N8 _ (.head _)).1, rfl, _, rfl⟩ ?_ ?_ ?_ ?_ ?_; decide; decide; rfl; rfl)
  k_steps
  (with_reducible rename News _ _ _ _ => N10)
  (try simp only [List.push_toArray] at N10)
  k_dflt (refine' hret tab8 tk2 (k + 1) _ _ _ hT8 (off2_cons (fun q hq => hO8 q hq _ (.tail _ (.head _))) (fun q hq p hp => hO8 q hq p (.tail _ (.tail _ hp)))) ?zF ?zN; (case zF => (refine fr_ub (by with_reducible assumption) ?_; (repeat' (first | exact lkup0 | refine lkupc ?_ ?_)) <;> rfl)); (case zN => exact news_sub N10 (sub_app (sub_skip (sub_skip sub_l)) (sub_cons (.tail _ (.head _)) (sub_skip (sub_skip (sub_r sub_refl)))))))
end Mine
end
theorem Mine.walk_off_TP : True := by
  w_top off
  exact True.intro
section
open PySem PySem.W PyProof.Rows PySem.NumText
set_option maxRecDepth 100000
namespace Mine
theorem nt_list (m : Nat) : (nt m).cps.toList = (Nat.toDigits 10 m).map Char.toNat := KIN.signs_num m
theorem nt_val (m : Nat) : digitsVal (nt m).cps.toList = m := by rw [nt_list]; exact KIN.val_back m
theorem nt_dig (m : Nat) : AllDigits (nt m).cps.toList := by
  rw [nt_list]
  intro c hc
  obtain ⟨ch, h1, rfl⟩ := List.mem_map.mp hc
  have := Nat.isDigit_of_mem_toDigits (by decide) (by decide) h1
  unfold Char.isDigit at this
  simp at this
  exact this
theorem nt_ne (m : Nat) : (nt m).cps.toList ≠ [] := by
  rw [nt_list]
  intro h
  have := congrArg List.length h
  rw [List.length_map] at this
  have h2 := Nat.length_toDigits_pos (b := 10) (n := m)
  simp at this
theorem int_text_gen {x : Str} {sp sg ds : List Nat} (e : x.cps.toList = sp ++ (sg ++ ds)) (hsp : sp = [] ∨ sp = [32]) (hsg : sg = [] ∨ sg = [43] ∨ sg = [45]) (hd : AllDigits ds) (hne : ds ≠ []) (hl : ds.length ≤ 4000) :
    PySem.intText? x = some (if sg = [45] then -((digitsVal ds : Nat) : Int) else ((digitsVal ds : Nat) : Int)) := by
  have hall : ∀ c ∈ x.cps.toList, 0 < c ∧ c < 128 := by
    rw [e]
    intro c hc
    rcases List.mem_append.mp hc with h | h
    · rcases hsp with rfl | rfl
      · cases h
      · rw [List.mem_singleton.mp h]; decide
    rcases List.mem_append.mp h with h | h
    · rcases hsg with rfl | rfl | rfl
      · cases h
      · rw [List.mem_singleton.mp h]; decide
      · rw [List.mem_singleton.mp h]; decide
    · have := hd c h; omega
  have e1 : numTextOf x = x.cps.toList := by
    refine if_pos ?_
    rw [← Array.all_toList, List.all_eq_true]
    intro c hc
    exact decide_eq_true (hall c hc).2
  have e2 : numSeenOf x = x.cps.toList := by
    show (numTextOf x).takeWhile _ = _
    rw [e1]
    refine takeWhile_all fun c hc => ?_
    have := hall c hc
    exact bne_iff_ne.mpr (by omega)
  obtain ⟨d, r, rfl⟩ : ∃ d r, ds = d :: r := by
    cases ds with
    | nil => exact absurd rfl hne
    | cons d r => exact ⟨d, r, rfl⟩
  have hd0 := hd.head
  have e3 : (x.cps.toList).dropWhile blank = sg ++ d :: r := by
    rw [e]
    have k : (sg ++ d :: r).dropWhile blank = sg ++ d :: r := by
      rcases hsg with rfl | rfl | rfl
      · exact dropWhile_of (by omega)
      · exact dropWhile_of (by decide)
      · exact dropWhile_of (by decide)
    rcases hsp with rfl | rfl
    · exact k
    · show (32 :: (sg ++ d :: r)).dropWhile blank = _
      rw [List.dropWhile_cons, if_pos (by decide)]
      exact k
  have e4 : sign (sg ++ d :: r) = (decide (sg = [45]), d :: r) := by
    rcases hsg with rfl | rfl | rfl
    · exact sign_of (by omega) (by omega)
    · rfl
    · rfl
  have e5 : core x.cps.toList = d :: r := by
    unfold core
    rw [e3, e4]
    show ((d :: r).reverse.dropWhile blank).reverse = d :: r
    rw [dropWhile_digits hd.reverse, List.reverse_reverse]
  unfold PySem.intText?
  rw [e1, e2, if_pos (beq_self_eq_true _), e5, digits_of hd hne, e3, e4]
  have hsz := push_size (d :: r) #[]
  have hv := push_foldl (d :: r) #[]
  show (if _ ≤ 4300 then some (worth (decide (sg = [45])) _) else none) = _
  rw [if_pos (by rw [hsz]; simp only [Array.size_empty]; omega)]
  unfold worth digitsVal
  rw [hv]
  by_cases h : sg = [45]
  · simp [h]
  · simp [h]
theorem cps_lit (s : String) (l : List Nat) (h : (Str.ofString s).cps.toList = l) : (Str.ofString s).cps.toList = l := h
theorem dig_app {a b : List Nat} (ha : AllDigits a) (hb : AllDigits b) : AllDigits (a ++ b) := fun c hc => (List.mem_append.mp hc).elim (ha c) (hb c)
theorem val_00 (ds : List Nat) : digitsVal ([48, 48] ++ ds) = digitsVal ds := rfl
theorem nt_size {n : Nat} (h : n < 2 ^ 110) : (nt n).cps.toList.length ≤ 40 := by
  have := nt_len h
  unfold Str.length at this
  simpa using this
/-- the port's text is read as its number -/
theorem port_reads {p : Str} {n : Int} (h : PortT p n) (hn : n.natAbs < 2 ^ 110) : PySem.intText? p = some n ∧ p.length ≤ 50 ∧ ∀ c ∈ p.cps.toList, c = 32 ∨ c = 43 ∨ c = 45 ∨ (48 ≤ c ∧ c ≤ 57) := by
  obtain ⟨sp, pl, ze, h1, h2, h3, rfl⟩ := h
  have l0 : (Str.ofString "").cps.toList = [] := by decide +kernel
  have l1 : (Str.ofString " ").cps.toList = [32] := by decide +kernel
  have l2 : (Str.ofString "-").cps.toList = [45] := by decide +kernel
  have l3 : (Str.ofString "+").cps.toList = [43] := by decide +kernel
  have l4 : (Str.ofString "00").cps.toList = [48, 48] := by decide +kernel
  have a1 : sp.cps.toList = [] ∨ sp.cps.toList = [32] := by rcases h1 with rfl | rfl; exact .inl l0; exact .inr l1
  have a2 : (n < 0 ∧ pl.cps.toList = [45]) ∨ (0 ≤ n ∧ (pl.cps.toList = [] ∨ pl.cps.toList = [43])) := by
    rcases h2 with ⟨a, rfl⟩ | ⟨a, rfl | rfl⟩
    · exact .inl ⟨a, l2⟩
    · exact .inr ⟨a, .inl l0⟩
    · exact .inr ⟨a, .inr l3⟩
  have a3 : ze.cps.toList = [] ∨ ze.cps.toList = [48, 48] := by rcases h3 with rfl | rfl; exact .inl l0; exact .inr l4
  have e : (sp ++ pl ++ ze ++ nt n.natAbs).cps.toList = sp.cps.toList ++ (pl.cps.toList ++ (ze.cps.toList ++ (nt n.natAbs).cps.toList)) := by
    rw [Str.cps_append, Str.cps_append, Str.cps_append]
    simp
  have hds : AllDigits (ze.cps.toList ++ (nt n.natAbs).cps.toList) := by
    refine dig_app ?_ (nt_dig _)
    rcases a3 with h | h
    · rw [h]; intro c hc; cases hc
    · rw [h]; intro c hc
      have : c = 48 := by simpa using hc
      omega
  have hdv : digitsVal (ze.cps.toList ++ (nt n.natAbs).cps.toList) = n.natAbs := by
    rcases a3 with h | h
    · rw [h]; exact nt_val _
    · rw [h, val_00]; exact nt_val _
  have hz := nt_size hn
  have hlz : (ze.cps.toList ++ (nt n.natAbs).cps.toList).length ≤ 42 := by
    rw [List.length_append]
    rcases a3 with h | h <;> rw [h] <;> simp only [List.length_nil, List.length_cons] <;> omega
  have hne : ze.cps.toList ++ (nt n.natAbs).cps.toList ≠ [] := by
    intro h; exact nt_ne _ (List.append_eq_nil_iff.mp h).2
  refine ⟨?_, ?_, ?_⟩
  · rw [int_text_gen e a1 (by rcases a2 with ⟨_, h⟩ | ⟨_, h | h⟩ <;> rw [h] <;> simp) hds hne (by omega), hdv]
    rcases a2 with ⟨a, h⟩ | ⟨a, h | h⟩
    · rw [if_pos h]; congr 1; omega
    · rw [h, if_neg (by decide)]; congr 1; omega
    · rw [h, if_neg (by decide)]; congr 1; omega
  · have : (sp ++ pl ++ ze ++ nt n.natAbs).length = (sp ++ pl ++ ze ++ nt n.natAbs).cps.toList.length := by simp [Str.length]
    rw [this, e, List.length_append, List.length_append]
    have b1 : sp.cps.toList.length ≤ 1 := by rcases a1 with h | h <;> rw [h] <;> simp
    have b2 : pl.cps.toList.length ≤ 1 := by rcases a2 with ⟨_, h⟩ | ⟨_, h | h⟩ <;> rw [h] <;> simp
    omega
  · rw [e]
    intro c hc
    rcases List.mem_append.mp hc with h | h
    · rcases a1 with g | g <;> rw [g] at h
      · cases h
      · exact .inl (List.mem_singleton.mp h)
    rcases List.mem_append.mp h with h | h
    · rcases a2 with ⟨_, g⟩ | ⟨_, g | g⟩ <;> rw [g] at h
      · exact .inr (.inr (.inl (List.mem_singleton.mp h)))
      · cases h
      · exact .inr (.inl (List.mem_singleton.mp h))
    · exact .inr (.inr (.inr (hds c h)))
section
variable {x : Str} {A M R : List Nat}
theorem s40 : Str.ofString "(" = ⟨#[40]⟩ := by decide +kernel
theorem s41 : Str.ofString ")" = ⟨#[41]⟩ := by decide +kernel
theorem s229 : Str.ofString "229" = ⟨[50, 50, 57].toArray⟩ := by decide +kernel
theorem str_ext {x y : Str} (h : x.cps.toList = y.cps.toList) : x = y := by
  obtain ⟨⟨a⟩⟩ := x
  obtain ⟨⟨b⟩⟩ := y
  have h' : a = b := h
  rw [h']
theorem head3 {r : List Nat} (e : x.cps.toList = [50, 50, 57] ++ r) : (Txt.slice x none (some 3) != Str.ofString "229") = false := by
  have hl : x.length = 3 + r.length := by
    have := congrArg List.length e
    simp [Str.length] at this ⊢; omega
  have h := beq_iff_eq.mp (slice_closes_toL (x := x) (j := 3) (by decide) (by omega))
  rw [h, e, s229]
  simp
theorem lft_at (e : x.cps.toList = [50, 50, 57] ++ (A ++ 40 :: R)) (hA : 40 ∉ A) : lft x = ((3 + A.length : Nat) : Int) := by
  show Txt.find x (Str.ofString "(") = _
  rw [s40]
  have e' : x.cps.toList = ([50, 50, 57] ++ A) ++ 40 :: R := by rw [e]; simp
  rw [find_at e' (by simp [hA])]
  simp; omega
theorem lft_no (h : 40 ∉ x.cps.toList) : lft x < 0 := by
  show Txt.find x (Str.ofString "(") < 0
  rw [s40, find_no h]; decide
theorem rgt_at (e : x.cps.toList = [50, 50, 57] ++ (A ++ 40 :: (M ++ 41 :: R))) (hA : 40 ∉ A) (hM : 41 ∉ M) : rgt x = ((4 + A.length + M.length : Nat) : Int) := by
  show Txt.find3 x (Str.ofString ")") (lft x + 1) = _
  rw [s41, lft_at e hA]
  have e' : x.cps.toList = ([50, 50, 57] ++ A ++ 40 :: M) ++ 41 :: R := by rw [e]; simp
  have := find3_at (i := 3 + A.length + 1) e' (by simp; omega) (fun v h1 h2 h3 => by
    rw [List.getElem?_append_right (by simp; omega)] at h3
    have h4 : v - ([50, 50, 57] ++ A).length = (v - (3 + A.length + 1)) + 1 := by simp; omega
    rw [h4, List.getElem?_cons_succ] at h3
    exact hM (List.mem_of_getElem? h3))
  rw [show (((3 + A.length : Nat) : Int) + 1) = ((3 + A.length + 1 : Nat) : Int) by omega, this]
  simp; omega
theorem rgt_no (e : x.cps.toList = [50, 50, 57] ++ (A ++ 40 :: M)) (hA : 40 ∉ A) (hM : 41 ∉ M) : rgt x < 0 := by
  show Txt.find3 x (Str.ofString ")") (lft x + 1) < 0
  rw [s41, lft_at e hA]
  have hl : x.length = 4 + A.length + M.length := by
    have := congrArg List.length e
    simp [Str.length] at this ⊢; omega
  have := find3_no (x := x) (c := 41) (i := 3 + A.length + 1) (fun v h1 h3 => by
    have e' : x.cps.toList = ([50, 50, 57] ++ A) ++ 40 :: M := by rw [e]; simp
    rw [e', List.getElem?_append_right (by simp; omega)] at h3
    have h4 : v - ([50, 50, 57] ++ A).length = (v - (3 + A.length + 1)) + 1 := by simp; omega
    rw [h4, List.getElem?_cons_succ] at h3
    exact hM (List.mem_of_getElem? h3)) (by omega)
  rw [show (((3 + A.length : Nat) : Int) + 1) = ((3 + A.length + 1 : Nat) : Int) by omega, this]
  decide
theorem len_of (e : x.cps.toList = [50, 50, 57] ++ (A ++ 40 :: (M ++ 41 :: R))) : x.length = 5 + A.length + M.length + R.length := by
  have := congrArg List.length e
  simp [Str.length] at this ⊢; omega
theorem left_at (e : x.cps.toList = [50, 50, 57] ++ (A ++ 40 :: (M ++ 41 :: R))) (hA : 40 ∉ A) {c : Nat} (hc : M[0]? = some c) : Txt.item x (lft x + 1) = ⟨#[c]⟩ := by
  rw [lft_at e hA]
  refine item_meets (by omega) ?_
  rw [← Array.getElem?_toList, e]
  have h1 : (((3 + A.length : Nat) : Int) + 1).toNat = 3 + A.length + 1 := by omega
  have e' : [50, 50, 57] ++ (A ++ 40 :: (M ++ 41 :: R)) = ([50, 50, 57] ++ A ++ [40]) ++ (M ++ 41 :: R) := by simp
  rw [h1, e', List.getElem?_append_right (by simp; omega)]
  have h2 : 3 + A.length + 1 - ([50, 50, 57] ++ A ++ [40]).length = 0 := by simp; omega
  have hm : 0 < M.length := (List.getElem?_eq_some_iff.mp hc).1
  rw [h2, List.getElem?_append_left hm]; exact hc
theorem right_at (e : x.cps.toList = [50, 50, 57] ++ (A ++ 40 :: (M ++ 41 :: R))) (hA : 40 ∉ A) (hM : 41 ∉ M) {c : Nat} (hc : M[M.length - 1]? = some c) : Txt.item x (rgt x - 1) = ⟨#[c]⟩ := by
  have hm : M.length - 1 < M.length := (List.getElem?_eq_some_iff.mp hc).1
  rw [rgt_at e hA hM]
  refine item_meets (by omega) ?_
  rw [← Array.getElem?_toList, e]
  have h1 : (((4 + A.length + M.length : Nat) : Int) - 1).toNat = 3 + A.length + M.length := by omega
  have e' : [50, 50, 57] ++ (A ++ 40 :: (M ++ 41 :: R)) = ([50, 50, 57] ++ A ++ [40]) ++ (M ++ 41 :: R) := by simp
  rw [h1, e', List.getElem?_append_right (by simp; omega)]
  have h2 : 3 + A.length + M.length - ([50, 50, 57] ++ A ++ [40]).length = M.length - 1 := by simp; omega
  rw [h2, List.getElem?_append_left hm]; exact hc
theorem mid_at (e : x.cps.toList = [50, 50, 57] ++ (A ++ 40 :: (M ++ 41 :: R))) (hA : 40 ∉ A) (hM : 41 ∉ M) : (Txt.slice x (some (lft x + 1)) (some (rgt x))).cps.toList = M := by
  have hl := len_of e
  rw [lft_at e hA, rgt_at e hA hM]
  have h := beq_iff_eq.mp (slice_closesL (x := x) (i := ((3 + A.length : Nat) : Int) + 1) (j := ((4 + A.length + M.length : Nat) : Int)) (by omega) (by omega) (by omega))
  rw [h, e]
  have h1 : (((3 + A.length : Nat) : Int) + 1).toNat = ([50, 50, 57] ++ A ++ [40]).length := by simp; omega
  have h2 : (((4 + A.length + M.length : Nat) : Int) - (((3 + A.length : Nat) : Int) + 1)).toNat = M.length := by omega
  have e' : [50, 50, 57] ++ (A ++ 40 :: (M ++ 41 :: R)) = ([50, 50, 57] ++ A ++ [40]) ++ (M ++ 41 :: R) := by simp
  show ((([50, 50, 57] ++ (A ++ 40 :: (M ++ 41 :: R))).drop _).take _) = M
  rw [h1, h2, e', List.drop_left, List.take_left]
/-- the parts, when the first sign stands between them -/
theorem prt_at (e : x.cps.toList = [50, 50, 57] ++ (A ++ 40 :: (M ++ 41 :: R))) (hA : 40 ∉ A) (hM : 41 ∉ M) {c : Nat} (hc : M[0]? = some c) {qs : List Str} (hq : qs ≠ []) (h : ∀ p ∈ qs, c ∉ p.cps.toList) (ej : M = (Str.join ⟨#[c]⟩ qs).cps.toList) : prt x = qs := by
  show Txt.split _ _ = _
  rw [left_at e hA hc]
  exact split_is hq h ((mid_at e hA hM).trans ej)
theorem r229_port (e : x.cps.toList = [50, 50, 57] ++ (A ++ 40 :: (M ++ 41 :: R))) (hA : 40 ∉ A) (hM : 41 ∉ M) {c : Nat} (hc : M[0]? = some c) (hc2 : M[M.length - 1]? = some c) {q0 q1 q2 q3 q4 : Str} (h : ∀ p ∈ [q0, q1, q2, q3, q4], c ∉ p.cps.toList) (ej : M = (Str.join ⟨#[c]⟩ [q0, q1, q2, q3, q4]).cps.toList)
    {n : Int} (hn : PySem.intText? q3 = some n) (hl : q3.length ≤ 640) : r229 x = some (.port n) := by
  have hp := prt_at e hA hM hc (by simp) h ej
  unfold r229
  rw [if_neg (by rw [head3 e]; exact Bool.false_ne_true), if_neg (by rw [lft_at e hA]; omega), if_neg (by rw [rgt_at e hA hM]; omega), if_neg (by rw [left_at e hA hc, right_at e hA hM hc2]; simp), hp, if_neg (by simp)]
  show (match PySem.intText? q3 with | some n => if q3.length ≤ 640 then some (Out.port n) else none | none => none) = _
  rw [hn]
  exact if_pos hl
theorem r229_parts (e : x.cps.toList = [50, 50, 57] ++ (A ++ 40 :: (M ++ 41 :: R))) (hA : 40 ∉ A) (hM : 41 ∉ M) {c : Nat} (hc : M[0]? = some c) (hc2 : M[M.length - 1]? = some c) {qs : List Str} (hq : qs ≠ []) (h : ∀ p ∈ qs, c ∉ p.cps.toList) (ej : M = (Str.join ⟨#[c]⟩ qs).cps.toList)
    (h5 : qs.length ≠ 5) : r229 x = some .proto := by
  have hp := prt_at e hA hM hc hq h ej
  unfold r229
  rw [if_neg (by rw [head3 e]; exact Bool.false_ne_true), if_neg (by rw [lft_at e hA]; omega), if_neg (by rw [rgt_at e hA hM]; omega), if_neg (by rw [left_at e hA hc, right_at e hA hM hc2]; simp), hp, if_pos h5]
theorem r229_ends (e : x.cps.toList = [50, 50, 57] ++ (A ++ 40 :: (M ++ 41 :: R))) (hA : 40 ∉ A) (hM : 41 ∉ M) {c d : Nat} (hc : M[0]? = some c) (hc2 : M[M.length - 1]? = some d) (hcd : c ≠ d) : r229 x = some .proto :=
  r4 (head3 e) (by rw [lft_at e hA]; omega) (by rw [rgt_at e hA hM]; omega) (by rw [left_at e hA hc, right_at e hA hM hc2]; simp [hcd])
theorem r229_open (e : x.cps.toList = [50, 50, 57] ++ (A ++ 40 :: M)) (hA : 40 ∉ A) (hM : 41 ∉ M) : r229 x = some .proto :=
  r3 (head3 e) (by rw [lft_at e hA]; omega) (rgt_no e hA hM)
theorem r229_none {r : List Nat} (e : x.cps.toList = [50, 50, 57] ++ r) (h : 40 ∉ r) : r229 x = some .proto :=
  r2 (head3 e) (lft_no (by rw [e]; simp [h]))
theorem r229_code {a b c : Nat} {r : List Nat} (e : x.cps.toList = a :: b :: c :: r) (h : [a, b, c] ≠ [50, 50, 57]) : r229 x = some .reply := by
  refine r1 ?_
  have hl : x.length = 3 + r.length := by
    have := congrArg List.length e
    simp [Str.length] at this ⊢; omega
  have h3 := beq_iff_eq.mp (slice_closes_toL (x := x) (j := 3) (by decide) (by omega))
  rw [h3, e, s229]
  refine bne_iff_ne.mpr fun q => h ?_
  have q2 := congrArg (fun s : Str => s.cps.toList) q
  simpa using q2
end
theorem join2 {c : Nat} {x y : Str} {r : List Str} : (Str.join ⟨#[c]⟩ (x :: y :: r)).cps.toList = x.cps.toList ++ c :: (Str.join ⟨#[c]⟩ (y :: r)).cps.toList := by
  show (x ++ ⟨#[c]⟩ ++ Str.join ⟨#[c]⟩ (y :: r)).cps.toList = _
  show (x.cps ++ #[c] ++ (Str.join ⟨#[c]⟩ (y :: r)).cps).toList = _
  simp
theorem join1 {c : Nat} {x : Str} : Str.join ⟨#[c]⟩ [x] = x := rfl
theorem last_app (N : List Nat) (c : Nat) : (N ++ [c])[(N ++ [c]).length - 1]? = some c := by simp
theorem cpsE : (Str.ofString "").cps.toList = [] := by decide +kernel
theorem read_rtext {c : Nat} {p : Str} {n : Int} (hc : c ∈ [124, 47, 33, 61]) (h : PortT p n) (hn : n.natAbs < 2 ^ 110) : r229 (rtext c p) = some (.port n) ∧ p.length ≤ 100 := by
  obtain ⟨h1, h2, h3⟩ := port_reads h hn
  refine ⟨?_, by omega⟩
  have hc4 : c = 124 ∨ c = 47 ∨ c = 33 ∨ c = 61 := by simpa using hc
  have b1 : (Str.ofString "229 :) (").cps.toList = [50, 50, 57, 32, 58, 41, 32, 40] := by decide +kernel
  have b2 : (Str.ofString "B").cps.toList = [66] := by decide +kernel
  have b3 : (Str.ofString ") (|||9|)").cps.toList = [41, 32, 40, 124, 124, 124, 57, 124, 41] := by decide +kernel
  have hcp : c ∉ p.cps.toList := fun hm => by have := h3 c hm; omega
  have h41 : 41 ∉ p.cps.toList := fun hm => by have := h3 41 hm; omega
  have hM : c :: 66 :: c :: c :: (p.cps.toList ++ [c]) = (c :: 66 :: c :: c :: p.cps.toList) ++ [c] := by simp
  refine r229_port (A := [32, 58, 41, 32]) (M := c :: 66 :: c :: c :: (p.cps.toList ++ [c])) (R := [32, 40, 124, 124, 124, 57, 124, 41]) (c := c) ?_ (by decide) ?_ rfl ?_ (q0 := Str.ofString "") (q1 := Str.ofString "B") (q2 := Str.ofString "") (q3 := p) (q4 := Str.ofString "") ?_ ?_ h1 (by omega)
  · unfold rtext
    simp only [Str.cps_append, Array.toList_append, b1, b2, b3]
    simp
  · simp only [List.mem_cons, List.mem_append, List.not_mem_nil, or_false, not_or]
    exact ⟨by omega, by decide, by omega, by omega, h41, by omega⟩
  · rw [hM]; exact last_app _ _
  · intro q hq
    simp only [List.mem_cons, List.not_mem_nil, or_false] at hq
    rcases hq with rfl | rfl | rfl | rfl | rfl
    · rw [cpsE]; simp
    · rw [b2]; simp; omega
    · rw [cpsE]; simp
    · exact hcp
    · rw [cpsE]; simp
  · rw [join2, join2, join2, join2, join1, cpsE, b2]
    simp
end Mine
end
theorem Mine.walk_off_LB3 : True := by
  w_top off
  exact True.intro
section
open PySem PySem.W PyProof.Rows
set_option Elab.async false
set_option maxRecDepth 100000
set_option maxHeartbeats 8000000
namespace Mine
theorem num_bnd {b v u : Int} (hb : Bnd b) (h1 : -7 ≤ v ∧ v ≤ 7) (h3 : 1 ≤ u ∧ u ≤ 65536) : (b + v * u).natAbs < 2 ^ 101 := by
  have a1 : v * u ≤ 7 * 65536 := by
    have := Int.mul_le_mul_of_nonneg_right h1.2 (show 0 ≤ u by omega)
    omega
  have a2 : -7 * 65536 ≤ v * u := by
    have := Int.mul_le_mul_of_nonneg_right h1.1 (show 0 ≤ u by omega)
    omega
  unfold Bnd at hb
  omega
theorem law_bt {w : World} {p : Program} {loose : List Str} {mean : ExcName → Option Value} {mg mb : Str → Option Value} {dp un : Nat} {gd : Option (List Code)} {a : Addr} {ccd : Value} {A₀ : Around} {h₀ : Heap} {L : Addr} {s : Shared} {Q : Flow → Shared → Prop} {E : Value → Shared → Prop} {cs : Scope} {u : Str → Option Value} {news tab : List (Addr × Obj)} {r sa : Addr} {v d sh un0 b : Int} {t0 t1 t2 t3 t4 : Tok} {vs : List Value} {k : Nat} {st0 st1 st2 st3 st4 st5 st6 st7 : Stmt}
  (B : Below A₀ h₀ [] h₀) (F : Fr h₀ L s.heap (ub u [(Str.ofString "units", .int v t0), (Str.ofString "ring", .ref r), (Str.ofString "dress", .int d t1), (Str.ofString "shape", .int sh t2), (Str.ofString "unit", .int un0 t3), (Str.ofString "base", .int b t4), (Str.ofString "script", .ref sa)])) (X : (hd.heap_39 w.params).In h₀) (N : News h₀ L s.heap (tab ++ ((r, listOf vs.toArray k) :: news))) (T : Top p loose mean mg mb h₀) (hp : lawForSeg 6 0 8 w.params = some ([st0, st1, st2, st3, st4, st5, st6, st7], cs))
  (hdp : dp + 100 < recursionLimit) (hu : un + 9000 < cLine) (hC : CodeHd h₀ 51 47) (hT : Tab tab) (h47 : ∀ p ∈ (r, listOf vs.toArray k) :: news, p.1 ≠ 47) (hoff : Off2 tab ((r, listOf vs.toArray k) :: news)) (hrn : ∀ p ∈ news, p.1 ≠ r) (hv : vs.length ≤ 3) (h1 : -7 ≤ v ∧ v ≤ 7) (h2 : 0 ≤ d ∧ d < 24) (h3 : 1 ≤ un0 ∧ un0 ≤ 65536) (hb : Bnd b)
  (hret : ∀ tab' (t8 : Tok) k' h' tk' m', Tab tab' → Off2 tab' ((r, listOf (vs ++ [Value.int (b + v * un0) t8]).toArray k') :: news) →
    Fr h₀ L h' (ub m' [(Str.ofString "ring", .ref r), (Str.ofString "dress", .int d t1), (Str.ofString "shape", .int sh t2), (Str.ofString "unit", .int un0 t3), (Str.ofString "base", .int b t4), (Str.ofString "script", .ref sa)]) →
    News h₀ L h' (tab' ++ ((r, listOf (vs ++ [Value.int (b + v * un0) t8]).toArray k') :: news)) → Q .next { s with heap := h', toks := tk' }) :
  wpAny (model PySem.Challenge.rw_xi0006_01.row.prog w) (ktrTop dp un gd (Str.ofString "law") cs L a ccd [] []) (execs [st0, st1, st2, st3, st4, st5, st6, st7] (envX (Str.ofString "law") cs L a ccd [])) Q E s := by
  refine' use_parts hp (y := ([?sta0, ?sta1, ?sta2, ?sta3, ?sta4, ?sta5, ?sta6, ?sta7], Scope.mk ?sc1 ?sc2 ?sc3 ?sc4 ?sc5)) ?e ?_
  case e => k_dflt (unfold lawForSeg lawFor lawParts; rfl)
  intro e9
  cases e9
  have hn := num_bnd hb h1 h3
  have hn' : (b + v * un0).natAbs < 2 ^ 110 := Nat.lt_trans hn (by decide)
  refine execs_app (l := [_, _, _, _]) (r := [_, _, _, _]) ?_
  k_dflt (refine' law_b1 B F X N T ?hp1 hdp hu (List.mem_append_right _ (.head _)) hv h1 h2 h3 hn' ?_)
  case hp1 => k_dflt (unfold lawForSeg lawFor lawParts; rfl)
  intro c p' t5 t6 t7 h' tk' m' hc hp9 F1 N1
  have hr := read_rtext hc hp9 hn'
  have F2 := fr_ub F1 (l := [(Str.ofString "number", .int (b + v * un0) t5), (Str.ofString "mark", .str ⟨#[c]⟩ t6), (Str.ofString "port", .str p' t7), (Str.ofString "ring", .ref r), (Str.ofString "dress", .int d t1), (Str.ofString "shape", .int sh t2), (Str.ofString "unit", .int un0 t3), (Str.ofString "base", .int b t4), (Str.ofString "script", .ref sa)]) (by (repeat' (first | exact lkup0 | refine lkupc ?_ ?_)) <;> rfl)
  k_dflt (refine' law_b2 B F2 X N1 T ?hp2 hdp hu hC hT h47 hoff hrn hv hn' hr.2 hr.1 ?_)
  case hp2 => k_dflt (unfold lawForSeg lawFor lawParts; rfl)
  intro tab' t8 k' h'' tk'' m'' hT' hr' F3 N3
  exact hret tab' t8 k' h'' tk'' m'' hT' hr' F3 N3
end Mine
end
theorem Mine.walk_off_LB4 : True := by
  w_top off
  exact True.intro
section
open PySem PySem.W PyProof.Rows
set_option Elab.async false
set_option maxRecDepth 100000
set_option maxHeartbeats 8000000
namespace Mine
theorem led_b0 {h₀ h : Heap} {L r : Addr} {x : Addr × Obj} {b u : Int} {t5 : Tok} {p q : Value} {k : Nat} {tab : List (Addr × Obj)} (N : News h₀ L h (x :: (r, listOf ((([] ++ [Value.int (b + 0 * u) t5]) ++ [p]) ++ [q]).toArray k) :: tab)) : News h₀ L h ((r, listOf #[.int b t5, p, q] k) :: tab) := by
  rw [Int.zero_mul, Int.add_zero] at N
  exact news_sub N (sub_cons (.tail _ (.head _)) (sub_skip (sub_skip sub_refl)))
theorem lb_step {w : World} {p : Program} {loose : List Str} {mean : ExcName → Option Value} {mg mb : Str → Option Value} {dp un : Nat} {gd : Option (List Code)} {a : Addr} {ccd : Value} {A₀ : Around} {h₀ : Heap} {L : Addr} {s : Shared} {Q : Flow → Shared → Prop} {E : Value → Shared → Prop} {cs : Scope} {u : Str → Option Value} {tab : List (Addr × Obj)} {r sa ax I : Addr} {lo : Obj} {v d sh un0 b : Int} {t0 t1 t2 t3 t4 : Tok} {vs rest : List Value} {k : Nat} {st0 st1 st2 st3 st4 st5 st6 st7 : Stmt}
  (B : Below A₀ h₀ [] h₀) (X : (hd.heap_39 w.params).In h₀) (T : Top p loose mean mg mb h₀) (hp : lawForSeg 6 0 8 w.params = some ([st0, st1, st2, st3, st4, st5, st6, st7], cs))
  (hdp : dp + 100 < recursionLimit) (hu : un + 9000 < cLine) (hC : CodeHd h₀ 51 47) (hT : Tab tab) (hI47 : I ≠ 47) (hax47 : ax ≠ 47) (hIr : I ≠ r) (haxr : ax ≠ r) (h47r : r ≠ 47) (haxI : ax ≠ I) (hoff : Off2 tab [(r, listOf vs.toArray k), (ax, lo)]) (hoI : ∀ q ∈ tab, I ≠ q.1) (hv : vs.length ≤ 3) (h1 : -7 ≤ v ∧ v ≤ 7) (h2 : 0 ≤ d ∧ d < 24) (h3 : 1 ≤ un0 ∧ un0 ≤ 65536) (hb : Bnd b)
  (hnext : ∀ tab' (t8 : Tok) k' m', Tab tab' → Off2 tab' [(r, listOf (vs ++ [Value.int (b + v * un0) t8]).toArray k'), (ax, lo)] → (∀ q ∈ tab', I ≠ q.1) → ListRest PySem.Challenge.rw_xi0006_01.row.prog w (ktrTop dp un gd (Str.ofString "law") cs L a ccd [] []) E h₀ (envX (Str.ofString "law") cs L a ccd []) (Str.ofString "units") [st0, st1, st2, st3, st4, st5, st6, st7] Q s I (ax, lo) rest (ub m' [(Str.ofString "ring", .ref r), (Str.ofString "dress", .int d t1), (Str.ofString "shape", .int sh t2), (Str.ofString "unit", .int un0 t3), (Str.ofString "base", .int b t4), (Str.ofString "script", .ref sa)]) ((ax, lo) :: (r, listOf (vs ++ [Value.int (b + v * un0) t8]).toArray k') :: tab')) :
  ListRest PySem.Challenge.rw_xi0006_01.row.prog w (ktrTop dp un gd (Str.ofString "law") cs L a ccd [] []) E h₀ (envX (Str.ofString "law") cs L a ccd []) (Str.ofString "units") [st0, st1, st2, st3, st4, st5, st6, st7] Q s I (ax, lo) (Value.int v t0 :: rest) (ub u [(Str.ofString "ring", .ref r), (Str.ofString "dress", .int d t1), (Str.ofString "shape", .int sh t2), (Str.ofString "unit", .int un0 t3), (Str.ofString "base", .int b t4), (Str.ofString "script", .ref sa)]) ((ax, lo) :: (r, listOf vs.toArray k) :: tab) := by
  refine ListRest.succ ?_
  intro it h tk hcls F1 N1
  have F' := fr_ub F1 (l := [(Str.ofString "units", .int v t0), (Str.ofString "ring", .ref r), (Str.ofString "dress", .int d t1), (Str.ofString "shape", .int sh t2), (Str.ofString "unit", .int un0 t3), (Str.ofString "base", .int b t4), (Str.ofString "script", .ref sa)]) (by (repeat' (first | exact lkup0 | refine lkupc ?_ ?_)) <;> rfl)
  have N' : News h₀ L h (tab ++ ((r, listOf vs.toArray k) :: [(I, it), (ax, lo)])) := news_sub N1 (sub_app (sub_skip (sub_skip (sub_skip sub_refl))) (sub_cons (by k_mem) (sub_cons (by k_mem) (sub_cons (by k_mem) (fun _ h => nomatch h)))))
  have ho2 : Off2 tab [(I, it), (ax, lo)] := off2_cons hoI (fun q hq p hp => hoff q hq p (.tail _ hp))
  k_dflt (refine' law_bt B F' X N' T hp hdp hu hC hT ?h47 ?hoff ?hrn hv h1 h2 h3 hb ?_)
  case h47 => exact List.forall_mem_cons.mpr ⟨h47r, List.forall_mem_cons.mpr ⟨hI47, List.forall_mem_cons.mpr ⟨hax47, fun _ h => nomatch h⟩⟩⟩
  case hoff => exact off2_cons (fun q hq => hoff q hq _ (.head _)) ho2
  case hrn => exact List.forall_mem_cons.mpr ⟨hIr, List.forall_mem_cons.mpr ⟨haxr, fun _ h => nomatch h⟩⟩
  intro tab' t8 k' h' tk' m' hT' hO' F3 N3
  have hoI' : ∀ q ∈ tab', I ≠ q.1 := fun q hq => hO' q hq _ (.tail _ (.head _))
  refine UnrEnd.intro F3 N3 ((ax, lo) :: (r, listOf (vs ++ [Value.int (b + v * un0) t8]).toArray k') :: tab') ?_ ?_ ⟨.head _, ?_⟩
  · exact sub_cons (List.mem_append_right _ (.tail _ (.head _))) (sub_cons (List.mem_append_right _ (.tail _ (.tail _ (.head _)))) (sub_cons (List.mem_append_right _ (.head _)) sub_l))
  · exact List.forall_mem_cons.mpr ⟨haxI, List.forall_mem_cons.mpr ⟨hIr.symm, fun p hp e => hoI' p hp e.symm⟩⟩
  · exact hnext tab' t8 k' m' hT' (off2_cons (fun q hq => hO' q hq _ (.head _)) (off2_cons (fun q hq => hO' q hq _ (.tail _ (.tail _ (.head _)))) (fun _ _ _ h => nomatch h))) hoI'
theorem law_b {w : World} {p : Program} {loose : List Str} {mean : ExcName → Option Value} {mg mb : Str → Option Value} {dp un : Nat} {gd : Option (List Code)} {a : Addr} {ccd : Value} {A₀ : Around} {h₀ : Heap} {L : Addr} {s : Shared} {Q : Flow → Shared → Prop} {E : Value → Shared → Prop} {cs : Scope} {u : Str → Option Value} {tab : List (Addr × Obj)} {r sa : Addr} {d sh un0 b : Int} {t1 t2 t3 t4 : Tok} {st0 : Stmt}
  (B : Below A₀ h₀ [] h₀) (F : Fr h₀ L s.heap (ub u [(Str.ofString "ring", .ref r), (Str.ofString "dress", .int d t1), (Str.ofString "shape", .int sh t2), (Str.ofString "unit", .int un0 t3), (Str.ofString "base", .int b t4), (Str.ofString "script", .ref sa)])) (X : (hd.heap_39 w.params).In h₀) (N : News h₀ L s.heap ((r, listOf #[] 0) :: tab)) (T : Top p loose mean mg mb h₀) (hp : lawSeg 6 1 w.params = some ([st0], cs))
  (hdp : dp + 100 < recursionLimit) (hu : un + 9000 < cLine) (hE : PassesOwn (model PySem.Challenge.rw_xi0006_01.row.prog w) (ktrTop dp un gd (Str.ofString "law") cs L a ccd [] []) (envX (Str.ofString "law") cs L a ccd []) E) (hC : CodeHd h₀ 51 47) (hT : Tab tab) (h47 : 47 < r) (hrt : ∀ p ∈ tab, p.1 ≠ r) (h2 : 0 ≤ d ∧ d < 24) (h3 : 1 ≤ un0 ∧ un0 ≤ 65536) (hb : Bnd b)
  (hret : ∀ tab' (v1 v2 : Int) (t5 t6 t7 : Tok) k' h' tk' m', (-7 ≤ v1 ∧ v1 ≤ 7) → (-7 ≤ v2 ∧ v2 ≤ 7) → Tab tab' → (∀ p ∈ tab', p.1 ≠ r) →
    Fr h₀ L h' (ub m' [(Str.ofString "ring", .ref r), (Str.ofString "dress", .int d t1), (Str.ofString "shape", .int sh t2), (Str.ofString "unit", .int un0 t3), (Str.ofString "base", .int b t4), (Str.ofString "script", .ref sa)]) →
    News h₀ L h' ((r, listOf #[.int b t5, .int (b + v1 * un0) t6, .int (b + v2 * un0) t7] k') :: tab') → Q .next { s with heap := h', toks := tk' }) :
  wpAny (model PySem.Challenge.rw_xi0006_01.row.prog w) (ktrTop dp un gd (Str.ofString "law") cs L a ccd [] []) (execs [st0] (envX (Str.ofString "law") cs L a ccd [])) Q E s := by
  refine' use_parts hp (y := ([?sta0], Scope.mk ?sc1 ?sc2 ?sc3 ?sc4 ?sc5)) ?e ?_
  case e => k_dflt (unfold lawSeg lawParts; rfl)
  intro e9
  cases e9
  k_with_none
  revert X; k_fill; intro X
  (k_with "pyIter ref" => refine Stop.mk ?_)
  refine wpAny_execs_cons ?_
  k_dflt (refine' For_invVF F ?k1 ?k2 ?_ (hE := hE); (case k1 => exact rfl); (case k2 => exact rfl))
  k_steps
  refine Stop.out ?_
  (with_reducible rename Fr _ _ _ _ => F1)
  (with_reducible rename News _ _ _ _ => N1)
  k_dflt (refine' iter_listUnr rfl F1 N1 (.head _) rfl rfl ?_)
  intro I lI
  obtain ⟨o47, ho47⟩ := tab_47 hT
  (with_reducible rename (_ < _ ∧ AllLt _ _) => lA)
  obtain ⟨lA1, lA2⟩ := lA
  have lA2 := ktn_ltOf lA2
  have hI47 : I ≠ 47 := Ne.symm (Nat.ne_of_lt (lI (47, o47) (.tail _ (.tail _ ho47))))
  have hIr : I ≠ r := Ne.symm (Nat.ne_of_lt (lI _ (.tail _ (.head _))))
  have haxI := Nat.ne_of_lt (lI _ (.head _))
  have haxr := Ne.symm (Nat.ne_of_lt lA1)
  have hax47 := Ne.symm (Nat.ne_of_lt (lA2 _ ho47))
  have hoff0 := fun lo : Obj => off2_cons (tab := tab) (o := listOf ([] : List Value).toArray 0) (fun q hq => (hrt q hq).symm) (off2_cons (o := lo) (news := []) (fun q hq => Ne.symm (Nat.ne_of_lt (lA2 q hq))) (fun _ _ _ h => nomatch h))
  have hoI0 : ∀ q ∈ tab, I ≠ q.1 := fun q hq => Ne.symm (Nat.ne_of_lt (lI q (.tail _ (.tail _ hq))))
  k_dflt (refine' lb_step (vs := ([] : List Value)) B X T ?hp5 hdp hu hC hT hI47 hax47 hIr haxr (Ne.symm (Nat.ne_of_lt h47)) haxI (hoff0 _) hoI0 (by simp) (by decide) h2 h3 hb ?_)
  case hp5 => k_dflt (unfold lawForSeg lawFor lawParts; rfl)
  intro tab5 t5 k5 m5 hT5 hO5 hI5
  k_dflt (refine' lb_step (vs := _) B X T ?hp6 hdp hu hC hT5 hI47 hax47 hIr haxr (Ne.symm (Nat.ne_of_lt h47)) haxI hO5 hI5 (by simp) ⟨by first | decide | (have := Int.fmod_nonneg_of_pos (sh) (show (0:Int) < 15 by decide); omega) | (have := Int.fmod_nonneg_of_pos (sh.fdiv 15) (show (0:Int) < 15 by decide); omega), by first | decide | (have := Int.fmod_lt_of_pos (sh) (show (0:Int) < 15 by decide); omega) | (have := Int.fmod_lt_of_pos (sh.fdiv 15) (show (0:Int) < 15 by decide); omega)⟩ h2 h3 hb ?_)
  case hp6 => k_dflt (unfold lawForSeg lawFor lawParts; rfl)
  intro tab6 t6 k6 m6 hT6 hO6 hI6
  k_dflt (refine' lb_step (vs := _) B X T ?hp7 hdp hu hC hT6 hI47 hax47 hIr haxr (Ne.symm (Nat.ne_of_lt h47)) haxI hO6 hI6 (by simp) ⟨by first | decide | (have := Int.fmod_nonneg_of_pos (sh) (show (0:Int) < 15 by decide); omega) | (have := Int.fmod_nonneg_of_pos (sh.fdiv 15) (show (0:Int) < 15 by decide); omega), by first | decide | (have := Int.fmod_lt_of_pos (sh) (show (0:Int) < 15 by decide); omega) | (have := Int.fmod_lt_of_pos (sh.fdiv 15) (show (0:Int) < 15 by decide); omega)⟩ h2 h3 hb ?_)
  case hp7 => k_dflt (unfold lawForSeg lawFor lawParts; rfl)
  intro tab7 t7 k7 m7 hT7 hO7 hI7
  refine ListRest.zero ?_
  intro h9 tk9 F9 N9
  refine wpAny_execs_nil ?_
  k_dflt (refine' hret tab7 (sh.fmod 15 - 7) ((sh.fdiv 15).fmod 15 - 7) t5 t6 t7 k7 h9 tk9 m7 ⟨by first | decide | (have := Int.fmod_nonneg_of_pos (sh) (show (0:Int) < 15 by decide); omega) | (have := Int.fmod_nonneg_of_pos (sh.fdiv 15) (show (0:Int) < 15 by decide); omega), by first | decide | (have := Int.fmod_lt_of_pos (sh) (show (0:Int) < 15 by decide); omega) | (have := Int.fmod_lt_of_pos (sh.fdiv 15) (show (0:Int) < 15 by decide); omega)⟩ ⟨by first | decide | (have := Int.fmod_nonneg_of_pos (sh) (show (0:Int) < 15 by decide); omega) | (have := Int.fmod_nonneg_of_pos (sh.fdiv 15) (show (0:Int) < 15 by decide); omega), by first | decide | (have := Int.fmod_lt_of_pos (sh) (show (0:Int) < 15 by decide); omega) | (have := Int.fmod_lt_of_pos (sh.fdiv 15) (show (0:Int) < 15 by decide); omega)⟩ hT7 ?_ F9 ?_)
  · exact fun q hq => (hO7 q hq _ (.head _)).symm
  · exact led_b0 N9
end Mine
end
theorem Mine.walk_off_LC1 : True := by
  w_top off
  exact True.intro
section
open PySem PySem.W PyProof.Rows
set_option Elab.async false
set_option maxRecDepth 100000
set_option maxHeartbeats 8000000
namespace Mine
theorem litLC1_0 : (Str.ofString "229 :) FLAGS (").length = 14 := by decide +kernel
theorem litLC1_1 : (Str.ofString ") :) FLAGS (B").length = 13 := by decide +kernel
noncomputable def txt (w : List UInt8) : Str := ⟨(w.map (·.toNat)).toArray⟩
noncomputable def bodyT (m d0 d1 d2 : Nat) : Str := ⟨#[m]⟩ ++ txt (apl d0) ++ ⟨#[m]⟩ ++ txt (apl d1) ++ ⟨#[m]⟩ ++ nt d2 ++ ⟨#[m]⟩
noncomputable def replyT (m d0 d1 d2 : Nat) : Str := Str.ofString "229 :) FLAGS (" ++ bodyT m d0 d1 d2 ++ Str.ofString ") :) FLAGS (B"
theorem txt_len {w : List UInt8} (h : w.length ≤ 28) : (txt w).length ≤ 28 := by unfold txt Str.length; simpa using h
theorem apl_len {n : Nat} (h : n < 2 ^ 110) : (apl n).length ≤ 28 := apl_length 28 n (Nat.lt_trans h (by decide))
theorem c_text2 {w : World} {p : Program} {loose : List Str} {mean : ExcName → Option Value} {mg mb : Str → Option Value}
  {dp un : Nat} {gd : Option (List Code)} {cn : Str} {cs : Scope} {a : Addr} {ccd : Value} {cl : List (Str × Addr)} {outer : List Env} {A₀ : Around} {base h₀ : Heap} {L : Addr} {m : Str → Option Value} {news : List (Addr × Obj)} {s : Shared} {Q E : Value → Shared → Prop}
  (B : Below A₀ base outer h₀) (F : Fr h₀ L s.heap m) (X : (hd.heap_39 w.params).In h₀) (N : News h₀ L s.heap news) (T : Top p loose mean mg mb h₀) (hk : cs.kind = .function)
  (hdp : dp + 10 < recursionLimit) (hu : un + 1000 < cLine)
  {x : List UInt8} {t1 : Tok} (hl : x.length ≤ 28)
  (hret : ∀ t h' tk', (txt x).length ≤ 28 → Fr h₀ L h' m → News h₀ L h' news → Q (.str (txt x) t) { s with heap := h', toks := tk' }) :
  wpAny (model PySem.Challenge.rw_xi0006_01.row.prog w) (ktrTop dp un gd cn cs L a ccd cl outer) (call (.ref 132) [.bytes x.toArray t1]) Q E s := by
  exact c_text B F X N T hk hdp hu (Nat.lt_of_le_of_lt hl (by decide)) (fun t h' tk' F' N' => hret t h' tk' (txt_len hl) F' N')
theorem law_c1 {w : World} {p : Program} {loose : List Str} {mean : ExcName → Option Value} {mg mb : Str → Option Value} {dp un : Nat} {gd : Option (List Code)} {a9 : Addr} {ccd : Value} {A₀ : Around} {h₀ : Heap} {L : Addr} {s : Shared} {Q : Flow → Shared → Prop} {E : Value → Shared → Prop} {cs : Scope} {u : Str → Option Value} {news : List (Addr × Obj)} {r ls : Addr} {i d a b c : Int} {t0 t1 ta tb tc : Tok} {k : Nat} {st0 st1 st2 st3 st4 : Stmt}
  (B : Below A₀ h₀ [] h₀) (F : Fr h₀ L s.heap (ub u [(Str.ofString "turn", .int i t0), (Str.ofString "ring", .ref r), (Str.ofString "dress", .int d t1), (Str.ofString "lists", .ref ls)])) (X : (hd.heap_39 w.params).In h₀) (N : News h₀ L s.heap (news)) (T : Top p loose mean mg mb h₀) (hp : lawForSeg 8 0 5 w.params = some ([st0, st1, st2, st3, st4], cs))
  (hdp : dp + 100 < recursionLimit) (hu : un + 9000 < cLine) (hr : (r, listOf #[.int a ta, .int b tb, .int c tc] k) ∈ news) (h2 : 0 ≤ d ∧ d < 24) (hi : 0 ≤ i ∧ i < 20) (g0 : (a - b).natAbs < 2 ^ 110) (g1 : (c - b).natAbs < 2 ^ 110) (g2 : (c - a).natAbs < 2 ^ 110)
  (hret : ∀ (m : Nat) wl (t5 t6 t7 t8 t9 t10 : Tok) h' tk' m', m ∈ [9, 10, 11, 12, 13, 32] → (∀ p ∈ news, p.1 < wl) →
    Fr h₀ L h' (ub m' [(Str.ofString "words", .ref wl), (Str.ofString "far", .int (((c - a).natAbs : Nat) : Int) t5), (Str.ofString "mark", .str ⟨#[m]⟩ t6), (Str.ofString "body", .str (bodyT m (a - b).natAbs (c - b).natAbs (c - a).natAbs) t7), (Str.ofString "reply", .str (replyT m (a - b).natAbs (c - b).natAbs (c - a).natAbs) t8), (Str.ofString "turn", .int i t0), (Str.ofString "ring", .ref r), (Str.ofString "dress", .int d t1), (Str.ofString "lists", .ref ls)]) →
    News h₀ L h' ((wl, listOf #[.bytes (apl (a - b).natAbs).toArray t9, .bytes (apl (c - b).natAbs).toArray t10] 0) :: news) → Q .next { s with heap := h', toks := tk' }) :
  wpAny (model PySem.Challenge.rw_xi0006_01.row.prog w) (ktrTop dp un gd (Str.ofString "law") cs L a9 ccd [] []) (execs [st0, st1, st2, st3, st4] (envX (Str.ofString "law") cs L a9 ccd [])) Q E s := by
  refine' use_parts hp (y := ([?sta0, ?sta1, ?sta2, ?sta3, ?sta4], Scope.mk ?sc1 ?sc2 ?sc3 ?sc4 ?sc5)) ?e ?_
  case e => k_dflt (unfold lawForSeg lawFor lawParts; rfl)
  intro e9
  cases e9
  obtain ⟨h2a, h2b⟩ := h2
  obtain ⟨hia, hib⟩ := hi
  k_with_none
  revert X; k_fill; intro X
  (k_with "call builtin:abs" => k_dflt (refine abs_nat ?_; intro t9 k9; (try dsimp only)))
  (k_with "call type:str" => k_dflt (refine str_nat ?hn ?_; (case hn => exact g2); intro t9 k9 ln9; (try dsimp only)))
  (k_with "binaryOp Add str str" => k_dflt (refine add_str ?_ ?hsz; (case hsz => (simp only [PySem.Str.length_append, len_one, litLC1_0, litLC1_1]; rw [sizeLine_eq]; omega)); intro t9 k9; (try dsimp only)))
  (k_with "callWith ref" => ((with_reducible show wpAny _ _ (callWith _ _ _ (backTo _ (starEach (PySem.Expr.BinOp _ _ _ _ :: _) _)) []) _ _ _); k_dflt (refine' callWith_K ?k1 ?k2 ?_ starEach_BinOp ?hpl; (case k1 => k_asm); (case k2 => k_is); (case hpl => rfl))))
  (k_with "subscriptTail" => ((with_reducible show wpAny _ _ (subscriptTail _ _ (Value.ref _) (Value.int _ _)) _ _ _); (with_reducible rename News _ _ _ _ => N9); k_dflt (refine item_made N9 (by first | k_mem | (first | exact hr | exact .tail _ (hr) | exact .tail _ (.tail _ (hr)) | exact .tail _ (.tail _ (.tail _ (hr))) | exact .tail _ (.tail _ (.tail _ (.tail _ (hr)))) | exact .tail _ (.tail _ (.tail _ (.tail _ (.tail _ (hr))))))) (by decide) (by decide) rfl ?_; (try dsimp only))))
  (k_with "call ref" => ((with_reducible show wpAny _ _ (call (Value.ref 108) _) _ _ _); k_dflt (refine' c_ap ?k1 ?k2 ?k3 ?k4 ?k5 ?kK ?kd ?ku ?q0 ?_; (case k1 => k_asm); (case k2 => k_asm); (case k3 => k_asm); (case k4 => k_asm); (case k5 => k_asm); (case kK => rfl); (case kd => ktr_room); (case ku => ktr_units); (case q0 => first | exact g0 | exact g1); (intro t9 h9 tk9 F9 N9); (try dsimp only))))
  (k_with "call ref" => ((with_reducible show wpAny _ _ (call (Value.ref 132) _) _ _ _); k_dflt (refine' c_text2 ?k1 ?k2 ?k3 ?k4 ?k5 ?kK ?kd ?ku ?q0 ?_; (case k1 => k_asm); (case k2 => k_asm); (case k3 => k_asm); (case k4 => k_asm); (case k5 => k_asm); (case kK => rfl); (case kd => ktr_room); (case ku => ktr_units); (case q0 => exact apl_len (by first | exact g0 | exact g1)); (intro t9 h9 tk9 ln9 F9 N9); (try dsimp only))))
  (k_with "subscriptTail Constant str BinOp str int" => ((with_reducible show wpAny _ _ (subscriptTail _ _ (Value.str (Str.ofString "\t\n\x0b\x0c\x0d ") _) _) _ _ _); k_dflt (refine pick_sign [9, 10, 11, 12, 13, 32] (by decide +kernel) ?i0 ?i1 (by decide) ?_; (case i0 => first | omega | exact Int.fmod_nonneg_of_pos _ (by decide)); (case i1 => first | (simp only [List.length_cons, List.length_nil]; omega) | exact Int.fmod_lt_of_pos _ (by decide)); (intro mk t9 k9 mkh; (try dsimp only)))))
  k_steps
  k_dflt (refine' hret _ _ _ _ _ _ _ _ _ _ _ ?zc ?zl ?zF ?zN; (case zc => assumption); (case zF => (refine fr_ub (by with_reducible assumption) ?_; (repeat' (first | exact lkup0 | refine lkupc ?_ ?_)) <;> rfl)); (case zN => (refine news_sub (by with_reducible assumption) ?_; (repeat' (first | with_reducible_and_instances apply sub_refl | refine sub_cons (by with_reducible_and_instances k_mem) ?_ | refine sub_skip ?_)))); (case zl => assumption))
end Mine
end
theorem Mine.walk_off_LC2 : True := by
  w_top off
  exact True.intro
section
open PySem PySem.W PyProof.Rows
set_option Elab.async false
set_option maxRecDepth 100000
set_option maxHeartbeats 8000000
namespace Mine
noncomputable def octs (x : Str) : List UInt8 := x.cps.toList.map fun c => UInt8.ofNat c
theorem c_oct2 {w : World} {p : Program} {loose : List Str} {mean : ExcName → Option Value} {mg mb : Str → Option Value}
  {dp un : Nat} {gd : Option (List Code)} {cn : Str} {cs : Scope} {a : Addr} {ccd : Value} {cl : List (Str × Addr)} {outer : List Env} {A₀ : Around} {base h₀ : Heap} {L : Addr} {m : Str → Option Value} {news : List (Addr × Obj)} {s : Shared} {Q E : Value → Shared → Prop}
  (B : Below A₀ base outer h₀) (F : Fr h₀ L s.heap m) (X : (hd.heap_39 w.params).In h₀) (N : News h₀ L s.heap news) (T : Top p loose mean mg mb h₀) (hk : cs.kind = .function)
  (hdp : dp + 10 < recursionLimit) (hu : un + 1000 < cLine)
  {x : Str} {t1 : Tok} (h1 : ∀ c ∈ x.cps.toList, c < 256) (h2 : x.cps.size < 2 ^ 20)
  (hret : ∀ t h' tk', Fr h₀ L h' m → News h₀ L h' news → Q (.bytes (octs x).toArray t) { s with heap := h', toks := tk' }) :
  wpAny (model PySem.Challenge.rw_xi0006_01.row.prog w) (ktrTop dp un gd cn cs L a ccd cl outer) (call (.ref 127) [.str x t1]) Q E s := by
  exact c_octets B F X N T hk hdp hu h1 h2 hret
theorem nt_256 {n : Nat} : ∀ c ∈ (nt n).cps.toList, c < 256 := fun c hc => by have := nt_dig n c hc; omega
theorem nt_size2 {n : Nat} (h : n < 2 ^ 110) : (nt n).cps.size < 2 ^ 20 := Nat.lt_of_le_of_lt (nt_len h) (by decide)
theorem octs_len (x : Str) : (octs x).length = x.cps.size := by unfold octs; simp
theorem grp_small {x : Str} {o : Option (Nat × Nat)} {w0 w1 : List UInt8} {d2 : Nat} (hg : grp (octs x) o = [w0, w1, octs (nt d2)].filter (· ≠ [])) (h0 : w0.length ≤ 28) (h1 : w1.length ≤ 28) (h2 : d2 < 2 ^ 110) : (∀ y ∈ grp (octs x) o, y.length ≤ 16777216) ∧ (grp (octs x) o).length ≤ 16777216 := by
  rw [hg]
  constructor
  · intro y hy
    have := (List.mem_filter.mp hy).1
    simp only [List.mem_cons, List.not_mem_nil, or_false] at this
    rcases this with rfl | rfl | rfl
    · omega
    · omega
    · rw [octs_len]; have := nt_size2 h2; omega
  · have := List.length_filter_le (· ≠ []) [w0, w1, octs (nt d2)]
    simp only [List.length_cons, List.length_nil] at this
    omega
theorem law_c2 {w : World} {p : Program} {loose : List Str} {mean : ExcName → Option Value} {mg mb : Str → Option Value} {dp un : Nat} {gd : Option (List Code)} {a : Addr} {ccd : Value} {A₀ : Around} {h₀ : Heap} {L : Addr} {s : Shared} {Q : Flow → Shared → Prop} {E : Value → Shared → Prop} {cs : Scope} {u : Str → Option Value} {news : List (Addr × Obj)} {r ls wl : Addr} {i d : Int} {mk d2 : Nat} {bd9 rp : Str} {w0 w1 : List UInt8} {o : Option (Nat × Nat)} {t0 t1 t5 t6 t7 t8 t9 t10 : Tok} {st0 st1 : Stmt}
  (B : Below A₀ h₀ [] h₀) (F : Fr h₀ L s.heap (ub u [(Str.ofString "words", .ref wl), (Str.ofString "far", .int ((d2 : Nat) : Int) t5), (Str.ofString "mark", .str ⟨#[mk]⟩ t6), (Str.ofString "body", .str bd9 t7), (Str.ofString "reply", .str rp t8), (Str.ofString "turn", .int i t0), (Str.ofString "ring", .ref r), (Str.ofString "dress", .int d t1), (Str.ofString "lists", .ref ls)])) (X : (hd.heap_39 w.params).In h₀) (N : News h₀ L s.heap ((wl, listOf #[.bytes w0.toArray t9, .bytes w1.toArray t10] 0) :: news)) (T : Top p loose mean mg mb h₀) (hp : lawForSeg 8 5 2 w.params = some ([st0, st1], cs))
  (hdp : dp + 100 < recursionLimit) (hu : un + 9000 < cLine) (hwl : ∀ p ∈ news, p.1 < wl) (ho1 : ∀ c ∈ rp.cps.toList, c < 256) (ho2 : rp.cps.size < 1000) (ho3 : 8 ≤ rp.cps.size) (hf : Found ((octs rp).toArray.map (·.toNat)) o) (hsp : ∀ a q, o = some (a, q) → ((octs rp).toArray.extract (a + 7) q).any Builtin.Bytes.isSpace = true) (hg : grp (octs rp) o = [w0, w1, octs (nt d2)].filter (· ≠ []))
  (hw0 : w0.length ≤ 28) (hw1 : w1.length ≤ 28) (hd2 : d2 < 2 ^ 110) (hrd : r229 rp = some (.port d2))
  (hret : ∀ fl tl (vs : List Value) (t11 t12 : Tok) h' tk' m', Paired (fun x v => ∃ u, v = Value.bytes (List.toArray x) u) (grp (octs rp) o) vs → (∀ p ∈ news, p.1 < fl) → (∀ p ∈ news, p.1 < tl) → wl < fl → wl < tl → fl < tl →
    Fr h₀ L h' (ub m' [(Str.ofString "flags", .ref fl), (Str.ofString "told", .ref tl), (Str.ofString "words", .ref wl), (Str.ofString "far", .int ((d2 : Nat) : Int) t5), (Str.ofString "mark", .str ⟨#[mk]⟩ t6), (Str.ofString "body", .str bd9 t7), (Str.ofString "reply", .str rp t8), (Str.ofString "turn", .int i t0), (Str.ofString "ring", .ref r), (Str.ofString "dress", .int d t1), (Str.ofString "lists", .ref ls)]) →
    News h₀ L h' ((tl, ({ cls := .type "tuple", data := .seq #[.str ⟨#[mk]⟩ t11, .int ((d2 : Nat) : Int) t12] } : Obj)) :: (fl, ({ cls := .type "tuple", data := .seq vs.toArray } : Obj)) :: (wl, listOf #[.bytes w0.toArray t9, .bytes w1.toArray t10] 0) :: news) → Q .next { s with heap := h', toks := tk' }) :
  wpAny (model PySem.Challenge.rw_xi0006_01.row.prog w) (ktrTop dp un gd (Str.ofString "law") cs L a ccd [] []) (execs [st0, st1] (envX (Str.ofString "law") cs L a ccd [])) Q E s := by
  refine' use_parts hp (y := ([?sta0, ?sta1], Scope.mk ?sc1 ?sc2 ?sc3 ?sc4 ?sc5)) ?e ?_
  case e => k_dflt (unfold lawForSeg lawFor lawParts; rfl)
  intro e9
  cases e9
  k_with_none
  revert X; k_fill; intro X
  (k_with "call builtin:abs" => k_dflt (refine abs_nat ?_; intro t9 k9; (try dsimp only)))
  (k_with "call type:str" => k_dflt (refine str_nat ?hn ?_; (case hn => exact hd2); intro t9 k9 ln9; (try dsimp only)))
  (k_with "binaryOp Add str str" => k_dflt (refine add_str ?_ ?hsz; (case hsz => (simp only [PySem.Str.length_append, len_one]; rw [sizeLine_eq]; omega)); intro t9 k9; (try dsimp only)))
  (k_with "callWith ref" => ((with_reducible show wpAny _ _ (callWith _ _ _ (backTo _ (starEach (PySem.Expr.BinOp _ _ _ _ :: _) _)) []) _ _ _); k_dflt (refine' callWith_K ?k1 ?k2 ?_ starEach_BinOp ?hpl; (case k1 => k_asm); (case k2 => k_is); (case hpl => rfl))))
  (k_with "call ref" => ((with_reducible show wpAny _ _ (call (Value.ref 127) _) _ _ _); k_dflt (refine' c_oct2 ?k1 ?k2 ?k3 ?k4 ?k5 ?kK ?kd ?ku ?q0 ?q1 ?_; (case k1 => k_asm); (case k2 => k_asm); (case k3 => k_asm); (case k4 => k_asm); (case k5 => k_asm); (case kK => rfl); (case kd => ktr_room); (case ku => ktr_units); (case q0 => first | exact ho1 | exact nt_256); (case q1 => first | omega | exact nt_size2 hd2); (intro t9 h9 tk9 F9 N9); (try dsimp only))))
  (k_with "call ref" => ((with_reducible show wpAny _ _ (call (Value.ref 115) _) _ _ _); k_dflt (refine' c_flags ?k1 ?k2 ?k3 ?k4 ?k5 ?kK ?kd ?ku ?q0 ?q1 ?q2 ?q3 ?q4 ?q5 ?_; (case k1 => k_asm); (case k2 => k_asm); (case k3 => k_asm); (case k4 => k_asm); (case k5 => k_asm); (case kK => rfl); (case kd => ktr_room); (case ku => ktr_units); (case q0 => (rw [octs_len]; omega)); (case q1 => (rw [octs_len]; exact ho3)); (case q2 => exact hf); (case q3 => exact hsp); (case q4 => exact (grp_small hg hw0 hw1 hd2).1); (case q5 => exact (grp_small hg hw0 hw1 hd2).2); (intro vs fl h9 tk9 P9 F9 N9 lf; (try dsimp only)); (try dsimp only))))
  (k_with "call ref" => ((with_reducible show wpAny _ _ (call (Value.ref 144) _) _ _ _); k_dflt (refine' c_read ?k1 ?k2 ?k3 ?k4 ?k5 ?kK ?kd ?ku ?q0 ?q1 ?q2 ?_; (case k1 => k_asm); (case k2 => k_asm); (case k3 => k_asm); (case k4 => k_asm); (case k5 => k_asm); (case kK => rfl); (case kd => ktr_room); (case ku => ktr_units); (case q0 => k_mem); (case q1 => first | exact Nat.le_of_lt ho2 | (show rp.cps.size ≤ 1000; omega)); (case q2 => exact hrd); (intro tl t12 h9 tk9 F9 N9 ltl; dsimp only [outObj] at N9; (have l47f := ltl); (k_lt ltl)); (try dsimp only))))
  k_steps
  k_dflt (refine' hret fl tl vs t6 t12 _ _ _ P9 ?z1 ?z2 ?z3 ?z4 ?z5 ?zF ?zN)
  case zF => (refine fr_ub (by with_reducible assumption) ?_; (repeat' (first | exact lkup0 | refine lkupc ?_ ?_)) <;> rfl)
  case zN => (refine news_sub (by with_reducible assumption) ?_; (repeat' (first | with_reducible_and_instances apply sub_refl | refine sub_cons (by with_reducible_and_instances k_mem) ?_ | refine sub_skip ?_)))
  case z1 => exact fun p hp => lf p (.tail _ hp)
  case z2 => exact fun p hp => l47f p (.tail _ (.tail _ (.tail _ hp)))
  case z3 => exact lf _ (.head _)
  case z4 => exact l47f _ (.tail _ (.tail _ (.head _)))
  case z5 => exact l47f _ (.tail _ (.head _))
end Mine
end
theorem Mine.walk_off_CT : True := by
  w_top off
  exact True.intro
section
open PySem PySem.W PyProof.Rows PyProof.V PySem.Spec PySem.Calls PySem.SeqAt
set_option maxRecDepth 100000
namespace Mine
noncomputable abbrev BV (x : List UInt8) (v : Value) : Prop := ∃ u, v = Value.bytes (List.toArray x) u
theorem paired_at {α β : Type} {F : α → β → Prop} : ∀ {l : List α} {r : List β}, Paired F l r → ∀ j (h1 : j < l.length) (h2 : j < r.length), F l[j] r[j]
  | _, _, .nil, j, h1, _ => absurd h1 (Nat.not_lt_zero _)
  | _, _, .cons h t, j, h1, h2 => by
    cases j with
    | zero => exact h
    | succ j => exact paired_at t j (by simpa using h1) (by simpa using h2)
section
variable {prog : Program} {w : World} {A : Around} {E : Value → Shared → Prop} {s : Shared} {h₀ : Heap} {L : Addr} {news : List (Addr × Obj)} {Q : Value → Shared → Prop}
theorem eqAt_bytes {x : List UInt8} {t u : Tok} {A : Around} : EqAt A s (.bytes x.toArray t) (.bytes x.toArray u) true := fun prog w E Q hq => by
  refine PySem.W.eqBool_bytes ?_
  have e : decide (x.toArray.toList = x.toArray.toList) = true := decide_eq_true rfl
  rw [e]; exact hq
theorem ne_tups {l b : Addr} {vs us : List Value} {xs ys : List (List UInt8)} (N : News h₀ L s.heap news) (hl : (l, ({ cls := .type "tuple", data := .seq vs.toArray } : Obj)) ∈ news) (hb : (b, ({ cls := .type "tuple", data := .seq us.toArray } : Obj)) ∈ news)
    (px : Paired BV xs vs) (py : Paired BV ys us) (hu : A.units < cLine) (e : xs = ys) (h : Q (.bool false) s) : wpAny (model prog w) A (compareOp .NotEq (.ref l) (.ref b)) Q E s := by
  subst e
  have e1 := paired_len px
  have e2 := paired_len py
  have il : s.heap.IsTuple l vs.toArray := ⟨_, (N _ hl).1, rfl, _, rfl⟩
  have ib : s.heap.IsTuple b us.toArray := ⟨_, (N _ hb).1, rfl, _, rfl⟩
  refine RcNeAt.tuples (e := fun _ => true) il ib hu ?_ prog w E Q ?_
  · intro j h1 h2
    have k1 : j < xs.length := by simpa [e1] using h1
    obtain ⟨t, ht⟩ := paired_at px j k1 (by simpa using h1)
    obtain ⟨u, hu⟩ := paired_at py j k1 (by simpa using h2)
    have g1 : vs.toArray[j] = .bytes xs[j].toArray t := by simpa using ht
    have g2 : us.toArray[j] = .bytes xs[j].toArray u := by simpa using hu
    rw [g1, g2]
    exact eqAt_bytes
  · have : (!((List.range (min vs.toArray.size us.toArray.size)).all (fun _ => true) && vs.toArray.size == us.toArray.size)) = false := by
      simp [e1, e2]
    rw [this]; exact h
/-- two items that are told alike -/
noncomputable abbrev Alike (s : Shared) (v u : Value) : Prop := ∀ A : Around, EqAt A s v u true
theorem alike_str {x : Str} {t u : Tok} : Alike s (.str x t) (.str x u) := fun A => by
  have := EqAt.str_str (A := A) (s := s) x t x u
  rwa [beq_self_eq_true] at this
theorem alike_int {x : Int} {t u : Tok} : Alike s (.int x t) (.int x u) := fun A => by
  have := EqAt.int_int (A := A) (s := s) x t x u
  rwa [beq_self_eq_true] at this
theorem alike_bytes {x : List UInt8} {t u : Tok} : Alike s (.bytes x.toArray t) (.bytes x.toArray u) := fun _ => eqAt_bytes
theorem all_true (n m : Nat) (h : n = m) : ((List.range (min n m)).all (fun _ => true) && n == m) = true := by
  subst h; simp
theorem tups_e {l b : Addr} {vs us : List Value} (N : News h₀ L s.heap news) (hl : (l, ({ cls := .type "tuple", data := .seq vs.toArray } : Obj)) ∈ news) (hb : (b, ({ cls := .type "tuple", data := .seq us.toArray } : Obj)) ∈ news) (p : Paired (Alike s) vs us) :
    s.heap.IsTuple l vs.toArray ∧ s.heap.IsTuple b us.toArray ∧ ∀ j (h1 : j < vs.toArray.size) (h2 : j < us.toArray.size), EqAt A.in1 s vs.toArray[j] us.toArray[j] true := by
  refine ⟨⟨_, (N _ hl).1, rfl, _, rfl⟩, ⟨_, (N _ hb).1, rfl, _, rfl⟩, fun j h1 h2 => ?_⟩
  have k1 : j < vs.length := by simpa using h1
  have k2 : j < us.length := by simpa using h2
  have := paired_at p j k1 k2 A.in1
  simpa using this
theorem ne_tupsG {l b : Addr} {vs us : List Value} (N : News h₀ L s.heap news) (hl : (l, ({ cls := .type "tuple", data := .seq vs.toArray } : Obj)) ∈ news) (hb : (b, ({ cls := .type "tuple", data := .seq us.toArray } : Obj)) ∈ news)
    (p : Paired (Alike s) vs us) (hu : A.units < cLine) (h : Q (.bool false) s) : wpAny (model prog w) A (compareOp .NotEq (.ref l) (.ref b)) Q E s := by
  obtain ⟨il, ib, he⟩ := tups_e (A := A) N hl hb p
  refine RcNeAt.tuples (e := fun _ => true) il ib hu he prog w E Q ?_
  rw [all_true _ _ (by simpa using (paired_len p).symm)]
  exact h
theorem lists_e {l b : Addr} {vs us : List Value} {k j : Nat} (N : News h₀ L s.heap news) (hl : (l, listOf vs.toArray k) ∈ news) (hb : (b, listOf us.toArray j) ∈ news) (p : Paired (Alike s) vs us) :
    s.heap.IsList l vs.toArray ∧ s.heap.IsList b us.toArray ∧ vs.toArray.size = us.toArray.size ∧ ∀ j (h1 : j < vs.toArray.size) (h2 : j < us.toArray.size), EqAt A.in1 s vs.toArray[j] us.toArray[j] true := by
  refine ⟨⟨_, (N _ hl).1, rfl, _, rfl⟩, ⟨_, (N _ hb).1, rfl, _, rfl⟩, by simpa using (paired_len p).symm, fun j h1 h2 => ?_⟩
  have k1 : j < vs.length := by simpa using h1
  have k2 : j < us.length := by simpa using h2
  have := paired_at p j k1 k2 A.in1
  simpa using this
theorem ne_listsG {l b : Addr} {vs us : List Value} {k j : Nat} (N : News h₀ L s.heap news) (hl : (l, listOf vs.toArray k) ∈ news) (hb : (b, listOf us.toArray j) ∈ news)
    (p : Paired (Alike s) vs us) (hu : A.units < cLine) (h : Q (.bool false) s) : wpAny (model prog w) A (compareOp .NotEq (.ref l) (.ref b)) Q E s := by
  obtain ⟨il, ib, hz, he⟩ := lists_e (A := A) N hl hb p
  refine RcNeAt.lists (e := fun _ => true) il ib hz hu he prog w E Q ?_
  have : (List.range vs.toArray.size).all (fun _ => true) = true := by simp
  rw [this]; exact h
theorem eq_listsG {l b : Addr} {vs us : List Value} {k j : Nat} (N : News h₀ L s.heap news) (hl : (l, listOf vs.toArray k) ∈ news) (hb : (b, listOf us.toArray j) ∈ news)
    (p : Paired (Alike s) vs us) (hu : A.units < cLine) (h : Q (.bool true) s) : wpAny (model prog w) A (compareOp .Eq (.ref l) (.ref b)) Q E s := by
  obtain ⟨il, ib, hz, he⟩ := lists_e (A := A) N hl hb p
  refine eq_listAt (e := fun _ => true) il ib hz hu he ?_
  have : (List.range vs.toArray.size).all (fun _ => true) = true := by simp
  rw [this]; exact h
theorem ne_empty {x : List UInt8} {t u : Tok} (h1 : x ≠ [] → Q (.bool true) s) (h2 : x = [] → Q (.bool false) s) : wpAny (model prog w) A (compareOp .NotEq (.bytes x.toArray t) (.bytes #[] u)) Q E s := by
  refine ne_bytes ?_
  by_cases h : x = []
  · subst h; exact h2 rfl
  · have : (x.toArray.toList != (#[] : Array UInt8).toList) = true := by simp [h]
    rw [this]; exact h1 h
end
theorem f11 {x y z : List UInt8} (h0 : x ≠ []) (h1 : y ≠ []) (h2 : z ≠ []) : [x, y, z].filter (· ≠ []) = [x, y, z] := by simp [h0, h1, h2]
theorem f10 {x y z : List UInt8} (h0 : x ≠ []) (h1 : y = []) (h2 : z ≠ []) : [x, y, z].filter (· ≠ []) = [x, z] := by simp [h0, h1, h2]
theorem f01 {x y z : List UInt8} (h0 : x = []) (h1 : y ≠ []) (h2 : z ≠ []) : [x, y, z].filter (· ≠ []) = [y, z] := by simp [h0, h1, h2]
theorem f00 {x y z : List UInt8} (h0 : x = []) (h1 : y = []) (h2 : z ≠ []) : [x, y, z].filter (· ≠ []) = [z] := by simp [h0, h1, h2]
end Mine
end
theorem Mine.walk_off_LC3 : True := by
  w_top off
  exact True.intro
section
open PySem PySem.W PyProof.Rows
set_option Elab.async false
set_option maxRecDepth 100000
set_option maxHeartbeats 8000000
namespace Mine
theorem octs_ne (n : Nat) : octs (nt n) ≠ [] := by
  intro h
  have := congrArg List.length h
  rw [octs_len] at this
  have h2 := nt_ne n
  apply h2
  rw [← Array.length_toList] at this
  exact List.length_eq_zero_iff.mp this
theorem law_c3 {w : World} {p : Program} {loose : List Str} {mean : ExcName → Option Value} {mg mb : Str → Option Value} {dp un : Nat} {gd : Option (List Code)} {a : Addr} {ccd : Value} {A₀ : Around} {h₀ : Heap} {L : Addr} {s : Shared} {Q : Flow → Shared → Prop} {E : Value → Shared → Prop} {cs : Scope} {u : Str → Option Value} {news : List (Addr × Obj)} {r ls wl fl tl : Addr} {i d : Int} {mk d2 : Nat} {bd9 rp : Str} {w0 w1 : List UInt8} {g : List (List UInt8)} {vs : List Value} {t0 t1 t5 t6 t7 t8 t9 t10 t11 t12 : Tok} {st0 : Stmt}
  (B : Below A₀ h₀ [] h₀) (F : Fr h₀ L s.heap (ub u [(Str.ofString "flags", .ref fl), (Str.ofString "told", .ref tl), (Str.ofString "words", .ref wl), (Str.ofString "far", .int ((d2 : Nat) : Int) t5), (Str.ofString "mark", .str ⟨#[mk]⟩ t6), (Str.ofString "body", .str bd9 t7), (Str.ofString "reply", .str rp t8), (Str.ofString "turn", .int i t0), (Str.ofString "ring", .ref r), (Str.ofString "dress", .int d t1), (Str.ofString "lists", .ref ls)])) (X : (hd.heap_39 w.params).In h₀) (N : News h₀ L s.heap ((tl, ({ cls := .type "tuple", data := .seq #[.str ⟨#[mk]⟩ t11, .int ((d2 : Nat) : Int) t12] } : Obj)) :: (fl, ({ cls := .type "tuple", data := .seq vs.toArray } : Obj)) :: (wl, listOf #[.bytes w0.toArray t9, .bytes w1.toArray t10] 0) :: news)) (T : Top p loose mean mg mb h₀) (hp : lawForSeg 8 7 1 w.params = some ([st0], cs))
  (hdp : dp + 100 < recursionLimit) (hu : un + 9000 < cLine) (hwl : ∀ p ∈ news, p.1 < wl) (l1 : wl < fl) (l2 : fl < tl) (P : Paired BV g vs) (hg : g = [w0, w1, octs (nt d2)].filter (· ≠ [])) (hd2 : d2 < 2 ^ 110)
  (hret : ∀ h' tk' m', Fr h₀ L h' (ub m' [(Str.ofString "flags", .ref fl), (Str.ofString "told", .ref tl), (Str.ofString "words", .ref wl), (Str.ofString "far", .int ((d2 : Nat) : Int) t5), (Str.ofString "mark", .str ⟨#[mk]⟩ t6), (Str.ofString "body", .str bd9 t7), (Str.ofString "reply", .str rp t8), (Str.ofString "turn", .int i t0), (Str.ofString "ring", .ref r), (Str.ofString "dress", .int d t1), (Str.ofString "lists", .ref ls)]) → News h₀ L h' ((tl, ({ cls := .type "tuple", data := .seq #[.str ⟨#[mk]⟩ t11, .int ((d2 : Nat) : Int) t12] } : Obj)) :: (fl, ({ cls := .type "tuple", data := .seq vs.toArray } : Obj)) :: (wl, listOf #[.bytes w0.toArray t9, .bytes w1.toArray t10] 0) :: news) → Q .next { s with heap := h', toks := tk' }) :
  wpAny (model PySem.Challenge.rw_xi0006_01.row.prog w) (ktrTop dp un gd (Str.ofString "law") cs L a ccd [] []) (execs [st0] (envX (Str.ofString "law") cs L a ccd [])) Q E s := by
  refine' use_parts hp (y := ([?sta0], Scope.mk ?sc1 ?sc2 ?sc3 ?sc4 ?sc5)) ?e ?_
  case e => k_dflt (unfold lawForSeg lawFor lawParts; rfl)
  intro e9
  cases e9
  k_with_none
  revert X; k_fill; intro X
  (k_with "call builtin:abs" => k_dflt (refine abs_nat ?_; intro t9 k9; (try dsimp only)))
  (k_with "call type:str" => k_dflt (refine str_nat ?hn ?_; (case hn => exact hd2); intro t9 k9 ln9; (try dsimp only)))
  (k_with "callWith ref" => ((with_reducible show wpAny _ _ (callWith _ _ _ (backTo _ (starEach (PySem.Expr.BinOp _ _ _ _ :: _) _)) []) _ _ _); k_dflt (refine' callWith_K ?k1 ?k2 ?_ starEach_BinOp ?hpl; (case k1 => k_asm); (case k2 => k_is); (case hpl => rfl))))
  (k_with "call ref" => ((with_reducible show wpAny _ _ (call (Value.ref 127) _) _ _ _); k_dflt (refine' c_oct2 ?k1 ?k2 ?k3 ?k4 ?k5 ?kK ?kd ?ku ?q0 ?q1 ?_; (case k1 => k_asm); (case k2 => k_asm); (case k3 => k_asm); (case k4 => k_asm); (case k5 => k_asm); (case kK => rfl); (case kd => ktr_room); (case ku => ktr_units); (case q0 => exact nt_256); (case q1 => exact nt_size2 hd2); (intro t9 h9 tk9 F9 N9); (try dsimp only))))
  (k_with "compareOp NotEq bytes bytes" => k_dflt (refine ne_empty ?_ ?_ <;> intro hx9))
  (k_with "CompEnd" => k_dflt (refine' LCg.CompEnd.intro (by assumption) (by assumption) _ (fun _ h => h) (by assumption) ?zS ?_; (case zS => exact .inr ⟨_, by k_mem, rfl, _, rfl⟩)))
  (k_with "compareOp NotEq ref ref" => ((with_reducible show wpAny _ _ (compareOp _ (Value.ref fl) (Value.ref _)) _ _ _); (with_reducible rename News _ _ _ _ => N9); k_dflt (first | (refine' ne_tups (ys := [w0, w1, octs (nt d2)]) N9 ?ya ?yb P ?yc ?yd (hg.trans (f11 (by assumption) (by assumption) (octs_ne _))) ?_; (case ya => k_mem); (case yb => k_mem); (case yc => (repeat' first | exact .nil | refine .cons ⟨_, rfl⟩ ?_)); (case yd => ktr_units)) | (refine' ne_tups (ys := [w0, octs (nt d2)]) N9 ?ya ?yb P ?yc ?yd (hg.trans (f10 (by assumption) (by assumption) (octs_ne _))) ?_; (case ya => k_mem); (case yb => k_mem); (case yc => (repeat' first | exact .nil | refine .cons ⟨_, rfl⟩ ?_)); (case yd => ktr_units)) | (refine' ne_tups (ys := [w1, octs (nt d2)]) N9 ?ya ?yb P ?yc ?yd (hg.trans (f01 (by assumption) (by assumption) (octs_ne _))) ?_; (case ya => k_mem); (case yb => k_mem); (case yc => (repeat' first | exact .nil | refine .cons ⟨_, rfl⟩ ?_)); (case yd => ktr_units)) | (refine' ne_tups (ys := [octs (nt d2)]) N9 ?ya ?yb P ?yc ?yd (hg.trans (f00 (by assumption) (by assumption) (octs_ne _))) ?_; (case ya => k_mem); (case yb => k_mem); (case yc => (repeat' first | exact .nil | refine .cons ⟨_, rfl⟩ ?_)); (case yd => ktr_units)))))
  (k_with "compareOp NotEq ref ref" => ((with_reducible show wpAny _ _ (compareOp _ (Value.ref tl) (Value.ref _)) _ _ _); (with_reducible rename News _ _ _ _ => N9); k_dflt (refine' ne_tupsG N9 ?ya ?yb ?yc ?yd ?_; (case ya => k_mem); (case yb => k_mem); (case yc => (repeat' first | exact .nil | refine .cons ?_ ?_ | exact alike_str | exact alike_int | exact alike_bytes)); (case yd => ktr_units))))
  k_steps
  all_goals (k_dflt (refine' hret _ _ _ ?zF ?zN; (case zF => (refine fr_ub (by with_reducible assumption) ?_; (repeat' (first | exact lkup0 | refine lkupc ?_ ?_)) <;> rfl)); (case zN => (refine news_sub (by with_reducible assumption) ?_; (repeat' (first | with_reducible_and_instances apply sub_refl | refine sub_cons (by with_reducible_and_instances k_mem) ?_ | refine sub_skip ?_))))))
end Mine
end
theorem Mine.walk_off_LC4 : True := by
  w_top off
  exact True.intro
section
open PySem PySem.W PyProof.Rows
set_option Elab.async false
set_option maxRecDepth 100000
set_option maxHeartbeats 8000000
namespace Mine
theorem off2_comp {I C D : Addr} {oI oC oD : Obj} {tab news rest : List (Addr × Obj)} (h3 : LCg.Off3 I C D (tab ++ news)) (ho : Off2 tab rest) : Off2 tab ((I, oI) :: (C, oC) :: (D, oD) :: rest) :=
  off2_cons (fun q hq => ((h3.mem q (List.mem_append_left _ hq)).1).symm) (off2_cons (fun q hq => ((h3.mem q (List.mem_append_left _ hq)).2.1).symm) (off2_cons (fun q hq => ((h3.mem q (List.mem_append_left _ hq)).2.2).symm) ho))
theorem n47_comp {I C D : Addr} {oI oC oD : Obj} {tab news rest : List (Addr × Obj)} (hT : Tab tab) (h3 : LCg.Off3 I C D (tab ++ news)) (h47 : ∀ p ∈ rest, p.1 ≠ 47) : ∀ p ∈ ((I, oI) :: (C, oC) :: (D, oD) :: rest), p.1 ≠ 47 := by
  obtain ⟨o, h⟩ := tab_47 hT
  have k := h3.mem _ (List.mem_append_left news h)
  exact List.forall_mem_cons.mpr ⟨k.1.symm, List.forall_mem_cons.mpr ⟨k.2.1.symm, List.forall_mem_cons.mpr ⟨k.2.2.symm, h47⟩⟩⟩
theorem off3_next {I C D wl r : Addr} {oI oC oD ow or ow' or' : Obj} {tab tab' news : List (Addr × Obj)} (h3 : LCg.Off3 I C D ((wl, ow) :: (r, or) :: (tab ++ news))) (ho : Off2 tab' ((I, oI) :: (C, oC) :: (D, oD) :: (wl, ow') :: (r, or') :: news)) : LCg.Off3 I C D ((wl, ow) :: (r, or) :: (tab' ++ news)) := by
  refine LCg.Off3.of ?_
  refine List.forall_mem_cons.mpr ⟨h3.mem _ (.head _), List.forall_mem_cons.mpr ⟨h3.mem _ (.tail _ (.head _)), fun p hp => ?_⟩⟩
  rcases List.mem_append.mp hp with h | h
  · exact ⟨(ho p h _ (.head _)).symm, (ho p h _ (.tail _ (.head _))).symm, (ho p h _ (.tail _ (.tail _ (.head _)))).symm⟩
  · exact h3.mem p (.tail _ (.tail _ (List.mem_append_right _ h)))
theorem off2_two {a b : Addr} {o o' o2 o2' : Obj} {tab news : List (Addr × Obj)} (h : Off2 tab ((a, o) :: (b, o2) :: news)) : Off2 tab ((a, o') :: (b, o2') :: news) :=
  off2_cons (fun q hq => h q hq _ (.head _)) (off2_cons (fun q hq => h q hq _ (.tail _ (.head _))) (fun q hq p hp => h q hq p (.tail _ (.tail _ hp))))
theorem n47_two {a b : Addr} {o o' o2 o2' : Obj} {news : List (Addr × Obj)} (h : ∀ p ∈ (a, o) :: (b, o2) :: news, p.1 ≠ 47) : ∀ p ∈ (a, o') :: (b, o2') :: news, p.1 ≠ 47 :=
  List.forall_mem_cons.mpr ⟨(show a ≠ 47 from h (a, o) (.head _)), List.forall_mem_cons.mpr ⟨(show b ≠ 47 from h (b, o2) (.tail _ (.head _))), fun p hp => h p (.tail _ (.tail _ hp))⟩⟩
theorem off2_drop3 {x y z : Addr × Obj} {tab l : List (Addr × Obj)} (h : Off2 tab (x :: y :: z :: l)) : Off2 tab l := fun q hq p hp => h q hq p (.tail _ (.tail _ (.tail _ hp)))
theorem swap5 {p1 p2 p3 p4 p5 : Addr × Obj} {tab news : List (Addr × Obj)} : ∀ p ∈ p1 :: p2 :: p3 :: p4 :: p5 :: (tab ++ news), p ∈ tab ++ (p1 :: p2 :: p3 :: p4 :: p5 :: news) :=
  sub_cons (List.mem_append_right _ (.head _)) (sub_cons (List.mem_append_right _ (.tail _ (.head _))) (sub_cons (List.mem_append_right _ (.tail _ (.tail _ (.head _)))) (sub_cons (List.mem_append_right _ (.tail _ (.tail _ (.tail _ (.head _))))) (sub_cons (List.mem_append_right _ (.tail _ (.tail _ (.tail _ (.tail _ (.head _)))))) (sub_app sub_l (sub_r (sub_skip (sub_skip (sub_skip (sub_skip (sub_skip sub_refl)))))))))))
theorem swap5' {p1 p2 p3 p4 p5 : Addr × Obj} {tab news : List (Addr × Obj)} : ∀ p ∈ tab ++ (p1 :: p2 :: p3 :: p4 :: p5 :: news), p ∈ p1 :: p2 :: p3 :: p4 :: p5 :: (tab ++ news) :=
  sub_app (sub_skip (sub_skip (sub_skip (sub_skip (sub_skip sub_l))))) (sub_cons (.head _) (sub_cons (.tail _ (.head _)) (sub_cons (.tail _ (.tail _ (.head _))) (sub_cons (.tail _ (.tail _ (.tail _ (.head _)))) (sub_cons (.tail _ (.tail _ (.tail _ (.tail _ (.head _))))) (sub_skip (sub_skip (sub_skip (sub_skip (sub_skip (sub_r sub_refl)))))))))))
theorem law_c4 {w : World} {p : Program} {loose : List Str} {mean : ExcName → Option Value} {mg mb : Str → Option Value} {dp un : Nat} {gd : Option (List Code)} {a9 : Addr} {ccd : Value} {A₀ : Around} {h₀ : Heap} {L : Addr} {s : Shared} {Q : Flow → Shared → Prop} {E : Value → Shared → Prop} {cs : Scope} {u : Str → Option Value} {news tab : List (Addr × Obj)} {r ls wl fl tl : Addr} {i d a b c : Int} {mk d2 : Nat} {bd9 rp : Str} {t0 t1 t5 t6 t7 t8 t9 t10 t11 t12 ta tb tc : Tok} {k : Nat} {st0 st1 : Stmt}
  (B : Below A₀ h₀ [] h₀) (F : Fr h₀ L s.heap (ub u [(Str.ofString "flags", .ref fl), (Str.ofString "told", .ref tl), (Str.ofString "words", .ref wl), (Str.ofString "far", .int ((d2 : Nat) : Int) t5), (Str.ofString "mark", .str ⟨#[mk]⟩ t6), (Str.ofString "body", .str bd9 t7), (Str.ofString "reply", .str rp t8), (Str.ofString "turn", .int i t0), (Str.ofString "ring", .ref r), (Str.ofString "dress", .int d t1), (Str.ofString "lists", .ref ls)])) (X : (hd.heap_39 w.params).In h₀) (N : News h₀ L s.heap ((wl, listOf #[.bytes (apl (a - b).natAbs).toArray t9, .bytes (apl (c - b).natAbs).toArray t10] 0) :: (r, listOf #[.int a ta, .int b tb, .int c tc] k) :: (tab ++ news))) (T : Top p loose mean mg mb h₀) (hp : lawForSeg 8 8 2 w.params = some ([st0, st1], cs))
  (hdp : dp + 100 < recursionLimit) (hu : un + 9000 < cLine) (hC : CodeHd h₀ 51 47) (hT : Tab tab) (ho : Off2 tab ((wl, (listOf #[] 0)) :: (r, listOf #[] 0) :: news)) (h47 : ∀ p ∈ (wl, (listOf #[] 0)) :: (r, listOf #[] 0) :: news, p.1 ≠ 47) (g0 : (a - b).natAbs < 2 ^ 110) (g1 : (c - b).natAbs < 2 ^ 110)
  (hret : ∀ tab' nl (t13 t14 : Tok) k' h' tk' m', Tab tab' → Off2 tab' ((nl, listOf #[] 0) :: (wl, (listOf #[] 0)) :: (r, listOf #[] 0) :: news) → (∀ p ∈ news, p.1 ≠ nl) → nl ≠ r → nl ≠ wl → nl ≠ 47 →
    Fr h₀ L h' (ub m' ((Str.ofString "near", .ref nl) :: [(Str.ofString "flags", .ref fl), (Str.ofString "told", .ref tl), (Str.ofString "words", .ref wl), (Str.ofString "far", .int ((d2 : Nat) : Int) t5), (Str.ofString "mark", .str ⟨#[mk]⟩ t6), (Str.ofString "body", .str bd9 t7), (Str.ofString "reply", .str rp t8), (Str.ofString "turn", .int i t0), (Str.ofString "ring", .ref r), (Str.ofString "dress", .int d t1), (Str.ofString "lists", .ref ls)])) → News h₀ L h' ((nl, listOf #[.int (((a - b).natAbs : Nat) : Int) t13, .int (((c - b).natAbs : Nat) : Int) t14] k') :: (wl, listOf #[.bytes (apl (a - b).natAbs).toArray t9, .bytes (apl (c - b).natAbs).toArray t10] 0) :: (r, listOf #[.int a ta, .int b tb, .int c tc] k) :: (tab' ++ news)) → Q .next { s with heap := h', toks := tk' }) :
  wpAny (model PySem.Challenge.rw_xi0006_01.row.prog w) (ktrTop dp un gd (Str.ofString "law") cs L a9 ccd [] []) (execs [st0, st1] (envX (Str.ofString "law") cs L a9 ccd [])) Q E s := by
  refine' use_parts hp (y := ([?sta0, ?sta1], Scope.mk ?sc1 ?sc2 ?sc3 ?sc4 ?sc5)) ?e ?_
  case e => k_dflt (unfold lawForSeg lawFor lawParts; rfl)
  intro e9
  cases e9
  k_with_none
  revert X; k_fill; intro X
  (k_with "call builtin:abs" => k_dflt (refine abs_nat ?_; intro t9 k9; (try dsimp only)))
  (k_with "subscriptTail Name Constant ref int" => ((with_reducible show wpAny _ _ (subscriptTail _ _ (Value.ref _) (Value.int _ _)) _ _ _); (with_reducible rename News _ _ _ _ => N9); k_dflt (refine item_made N9 (by first | k_mem) (by decide) (by decide) rfl ?_; (try dsimp only))))
  (k_with "CompEnd" => k_dflt (refine' LCg.CompEnd.intro (by assumption) (by assumption) _ (fun _ h => h) (by assumption) ?zS ?_; (case zS => exact .inr ⟨_, by k_mem, rfl, _, rfl⟩)))
  (k_with "call ref" => refine Stop.mk ?_)
  k_steps
  refine Stop.out ?_
  (with_reducible rename Fr _ _ _ _ => F1)
  (with_reducible rename News _ _ _ _ => N1)
  (rename (_ ∧ _ ∧ LCg.Off3 _ _ _ _) => o1)
  have N1' := news_sub N1 swap5'
  have o1' := o1.2.2
  k_dflt (refine' c_number ?k1 F1 ?k3 (news_sub N1' (sub_r sub_refl)) ?k5 ?kK ?kd ?ku hC hT N1' ?h47 ?hoff (apl_rng _) ?hl ?_)
  case k1 => k_asm
  case k3 => k_asm
  case k5 => k_asm
  case kK => rfl
  case kd => ktr_room
  case ku => ktr_units
  case h47 => exact n47_comp hT o1' (n47_two h47)
  case hoff => exact off2_comp o1' (off2_two ho)
  case hl => (have := apl_length 28 _ (Nat.lt_trans g0 (by decide)); omega)
  intro tk1 tab1 h1 k1 hT1 hO1 G1 M1
  rw [apl_num]
  dsimp only [qk]
  replace M1 := news_sub M1 swap5
  have q1 := off3_next (ow := listOf #[.bytes (apl (a - b).natAbs).toArray t9, .bytes (apl (c - b).natAbs).toArray t10] 0) (or := listOf #[.int a ta, .int b tb, .int c tc] k) o1 hO1
  (try dsimp only)
  k_steps
  refine Stop.out ?_
  (with_reducible rename Fr _ _ _ _ => F2)
  (with_reducible rename News _ _ _ _ => N2)
  (rename (_ ∧ _ ∧ LCg.Off3 _ _ _ _) => o2)
  have N2' := news_sub N2 swap5'
  have o2' := o2.2.2
  k_dflt (refine' c_number ?k1 F2 ?k3 (news_sub N2' (sub_r sub_refl)) ?k5 ?kK ?kd ?ku hC hT1 N2' ?h47 ?hoff (apl_rng _) ?hl ?_)
  case k1 => k_asm
  case k3 => k_asm
  case k5 => k_asm
  case kK => rfl
  case kd => ktr_room
  case ku => ktr_units
  case h47 => exact n47_comp hT1 o2' (n47_two h47)
  case hoff => exact off2_comp o2' (off2_two (fun q hq p hp => hO1 q hq p (.tail _ (.tail _ (.tail _ hp)))))
  case hl => (have := apl_length 28 _ (Nat.lt_trans g1 (by decide)); omega)
  intro tk2 tab2 h2 k2 hT2 hO2 G2 M2
  rw [apl_num]
  dsimp only [qk]
  replace M2 := news_sub M2 swap5
  have q2 := off3_next (ow := listOf #[.bytes (apl (a - b).natAbs).toArray t9, .bytes (apl (c - b).natAbs).toArray t10] 0) (or := listOf #[.int a ta, .int b tb, .int c tc] k) o2 hO2
  (try dsimp only)
  k_steps
  (rename (_ ∧ _ ∧ LCg.Off1 _ _) => z1)
  obtain ⟨z1, z2, z3⟩ := z1
  obtain ⟨o47, ho47⟩ := tab_47 hT2
  k_dflt (refine' hret tab2 _ tk1 tk2 2 _ _ _ hT2 ?zO ?z1 ?z2 ?z3 ?z4 ?zF ?zN)
  case zF => (refine fr_ub (by with_reducible assumption) ?_; (repeat' (first | exact lkup0 | refine lkupc ?_ ?_)) <;> rfl)
  case zN => (refine news_sub (by with_reducible assumption) ?_; (repeat' (first | with_reducible_and_instances apply sub_refl | refine sub_cons (by with_reducible_and_instances k_mem) ?_ | refine sub_skip ?_)))
  case zO => exact off2_cons (fun q hq => (off1_ne z3 (List.mem_append_left _ hq)).symm) (off2_two (off2_drop3 hO2))
  case z1 => exact fun p hp => off1_ne z3 (List.mem_append_right _ hp)
  case z2 => exact z2.symm
  case z3 => exact z1.symm
  case z4 => exact (off1_ne z3 (List.mem_append_left _ ho47)).symm
end Mine
end
theorem Mine.walk_off_LC5 : True := by
  w_top off
  exact True.intro
section
open PySem PySem.W PyProof.Rows
set_option Elab.async false
set_option maxRecDepth 100000
set_option maxHeartbeats 8000000
namespace Mine
theorem len_tupM {prog : Program} {w : World} {A : Around} {E : Value → Shared → Prop} {s : Shared} {h₀ : Heap} {L : Addr} {news : List (Addr × Obj)} {Q : Value → Shared → Prop} {l : Addr} {its : Array Value} (N : News h₀ L s.heap news) (hm : (l, ({ cls := .type "tuple", data := .seq its } : Obj)) ∈ news) (hfit : (its.size : Int) < 2 ^ 63)
    (h : Q (.int its.size (s.toks + 1)) { s with toks := s.toks + 1 + 1 }) : wpAny (model prog w) A (call (.builtin "len") [.ref l]) Q E s := len_tuple ⟨_, (N _ hm).1, rfl, _, rfl⟩ hfit h
theorem law_c5 {w : World} {p : Program} {loose : List Str} {mean : ExcName → Option Value} {mg mb : Str → Option Value} {dp un : Nat} {gd : Option (List Code)} {a : Addr} {ccd : Value} {A₀ : Around} {h₀ : Heap} {L : Addr} {s : Shared} {Q : Flow → Shared → Prop} {E : Value → Shared → Prop} {cs : Scope} {u : Str → Option Value} {news : List (Addr × Obj)} {r ls wl fl tl nl : Addr} {i d x y : Int} {mk d2 : Nat} {bd9 rp : Str} {lv vs : List Value} {t0 t1 t5 t6 t7 t8 t9 t10 t11 t12 t13 t14 : Tok} {k1 k2 : Nat} {st0 st1 st2 : Stmt}
  (B : Below A₀ h₀ [] h₀) (F : Fr h₀ L s.heap (ub u [(Str.ofString "near", .ref nl), (Str.ofString "flags", .ref fl), (Str.ofString "told", .ref tl), (Str.ofString "words", .ref wl), (Str.ofString "far", .int ((d2 : Nat) : Int) t5), (Str.ofString "mark", .str ⟨#[mk]⟩ t6), (Str.ofString "body", .str bd9 t7), (Str.ofString "reply", .str rp t8), (Str.ofString "turn", .int i t0), (Str.ofString "ring", .ref r), (Str.ofString "dress", .int d t1), (Str.ofString "lists", .ref ls)])) (X : (hd.heap_39 w.params).In h₀) (N : News h₀ L s.heap ((nl, listOf #[.int x t13, .int y t14] k1) :: (tl, ({ cls := .type "tuple", data := .seq #[.str ⟨#[mk]⟩ t11, .int ((d2 : Nat) : Int) t12] } : Obj)) :: (fl, ({ cls := .type "tuple", data := .seq vs.toArray } : Obj)) :: (ls, listOf lv.toArray k2) :: news)) (T : Top p loose mean mg mb h₀) (hp : lawForSeg 8 10 3 w.params = some ([st0, st1, st2], cs))
  (hdp : dp + 100 < recursionLimit) (hu : un + 9000 < cLine) (hvs : vs.length ≤ 3) (hlv : lv.length ≤ 20) (hd2 : d2 < 2 ^ 110) (e1 : @Ne Nat nl ls) (e2 : @Ne Nat tl ls) (e3 : @Ne Nat fl ls) (e4 : ∀ p ∈ news, p.1 ≠ ls)
  (hret : ∀ rl sl (v : List Value) (n : List Int) cc (ty : Tok) h' tk' m', IntsAre v n → n.Perm [x, y, (d2 : Int)] → n.Pairwise (· ≤ ·) → (∀ p ∈ news, p.1 < rl) → ls < rl → rl < sl → fl < rl →
    Fr h₀ L h' (ub m' ((Str.ofString "ring", .ref rl) :: [(Str.ofString "flags", .ref fl), (Str.ofString "words", .ref wl), (Str.ofString "far", .int ((d2 : Nat) : Int) t5), (Str.ofString "mark", .str ⟨#[mk]⟩ t6), (Str.ofString "body", .str bd9 t7), (Str.ofString "reply", .str rp t8), (Str.ofString "dress", .int d t1), (Str.ofString "lists", .ref ls)])) →
    News h₀ L h' ((sl, listOf v.toArray cc) :: (rl, listOf #[.int x t13, .int y t14, .int ((d2 : Nat) : Int) ty] 0) :: (fl, ({ cls := .type "tuple", data := .seq vs.toArray } : Obj)) :: (ls, listOf (lv ++ [Value.ref sl]).toArray (k2 + 1)) :: news) →
    ((vs.length < 3 ∨ d2 = 0) → Q .brk { s with heap := h', toks := tk' }) ∧ (¬ (vs.length < 3 ∨ d2 = 0) → Q .next { s with heap := h', toks := tk' })) :
  wpAny (model PySem.Challenge.rw_xi0006_01.row.prog w) (ktrTop dp un gd (Str.ofString "law") cs L a ccd [] []) (execs [st0, st1, st2] (envX (Str.ofString "law") cs L a ccd [])) Q E s := by
  refine' use_parts hp (y := ([?sta0, ?sta1, ?sta2], Scope.mk ?sc1 ?sc2 ?sc3 ?sc4 ?sc5)) ?e ?_
  case e => k_dflt (unfold lawForSeg lawFor lawParts; rfl)
  intro e9
  cases e9
  k_with_none
  revert X; k_fill; intro X
  (k_with "call builtin:abs" => k_dflt (refine abs_nat ?_; intro t9 k9; (try dsimp only)))
  (k_with "subscriptTail Name Constant ref int" => ((with_reducible show wpAny _ _ (subscriptTail _ _ (Value.ref _) (Value.int _ _)) _ _ _); (with_reducible rename News _ _ _ _ => N9); k_dflt (refine item_made N9 (by first | k_mem) (by decide) (by decide) rfl ?_; (try dsimp only))))
  (k_with "call builtin:len" => ((with_reducible show wpAny _ _ (call _ [Value.ref fl]) _ _ _); (with_reducible rename News _ _ _ _ => N9); k_dflt (refine len_tupM (its := vs.toArray) N9 (by k_mem) (by simp; omega) ?_); (try dsimp only)))
  k_steps
  · show Q .brk _
    (with_reducible rename News _ _ _ _ => gN)
    (try simp only [List.push_toArray] at gN)
    k_dflt (refine' (hret _ _ _ _ _ t12 _ _ _ ?zi ?zp ?zo ?z1 ?z2 ?z3 ?z4 ?zF ?zN).1 ?zc1; (case zF => (refine fr_ub (by with_reducible assumption) ?_; (repeat' (first | exact lkup0 | refine lkupc ?_ ?_)) <;> rfl)); (case zN => (refine news_sub (by with_reducible assumption) ?_; (repeat' (first | with_reducible_and_instances apply sub_refl | refine sub_cons (by with_reducible_and_instances k_mem) ?_ | refine sub_skip ?_)))); (case zi => assumption); (case zp => assumption); (case zo => assumption); (case z1 => (first | with_reducible_and_instances assumption | (refine ktn_ltOf ?_; with_reducible_and_instances (first | assumption | exact And.right (by assumption) | exact And.right (And.right (by assumption)) | exact And.right (And.right (And.right (by assumption))) | exact And.right (And.right (And.right (And.right (by assumption)))) | exact And.right (And.right (And.right (And.right (And.right (by assumption))))) | exact And.right (And.right (And.right (And.right (And.right (And.right (by assumption)))))) | exact And.right (And.right (And.right (And.right (And.right (And.right (And.right (by assumption))))))) | exact And.right (And.right (And.right (And.right (And.right (And.right (And.right (And.right (by assumption)))))))) | exact And.right (And.right (And.right (And.right (And.right (And.right (And.right (And.right (And.right (by assumption))))))))) | exact And.right (And.right (And.right (And.right (And.right (And.right (And.right (And.right (And.right (And.right (by assumption)))))))))) | exact And.right (And.right (And.right (And.right (And.right (And.right (And.right (And.right (And.right (And.right (And.right (by assumption))))))))))) | exact And.right (And.right (And.right (And.right (And.right (And.right (And.right (And.right (And.right (And.right (And.right (And.right (by assumption)))))))))))) | exact And.right (And.right (And.right (And.right (And.right (And.right (And.right (And.right (And.right (And.right (And.right (And.right (And.right (by assumption))))))))))))))))); (case z2 => (refine ltN ?_; omega)); (case z3 => (refine ltN ?_; omega)); (case z4 => (refine ltN ?_; omega)))
    have z9 : ((vs.toArray.size : Nat) : Int) < 3 := by assumption
    rw [List.size_toArray] at z9
    omega
  · show Q .brk _
    (with_reducible rename News _ _ _ _ => gN)
    (try simp only [List.push_toArray] at gN)
    k_dflt (refine' (hret _ _ _ _ _ t12 _ _ _ ?zi ?zp ?zo ?z1 ?z2 ?z3 ?z4 ?zF ?zN).1 ?zc2; (case zF => (refine fr_ub (by with_reducible assumption) ?_; (repeat' (first | exact lkup0 | refine lkupc ?_ ?_)) <;> rfl)); (case zN => (refine news_sub (by with_reducible assumption) ?_; (repeat' (first | with_reducible_and_instances apply sub_refl | refine sub_cons (by with_reducible_and_instances k_mem) ?_ | refine sub_skip ?_)))); (case zi => assumption); (case zp => assumption); (case zo => assumption); (case z1 => (first | with_reducible_and_instances assumption | (refine ktn_ltOf ?_; with_reducible_and_instances (first | assumption | exact And.right (by assumption) | exact And.right (And.right (by assumption)) | exact And.right (And.right (And.right (by assumption))) | exact And.right (And.right (And.right (And.right (by assumption)))) | exact And.right (And.right (And.right (And.right (And.right (by assumption))))) | exact And.right (And.right (And.right (And.right (And.right (And.right (by assumption)))))) | exact And.right (And.right (And.right (And.right (And.right (And.right (And.right (by assumption))))))) | exact And.right (And.right (And.right (And.right (And.right (And.right (And.right (And.right (by assumption)))))))) | exact And.right (And.right (And.right (And.right (And.right (And.right (And.right (And.right (And.right (by assumption))))))))) | exact And.right (And.right (And.right (And.right (And.right (And.right (And.right (And.right (And.right (And.right (by assumption)))))))))) | exact And.right (And.right (And.right (And.right (And.right (And.right (And.right (And.right (And.right (And.right (And.right (by assumption))))))))))) | exact And.right (And.right (And.right (And.right (And.right (And.right (And.right (And.right (And.right (And.right (And.right (And.right (by assumption)))))))))))) | exact And.right (And.right (And.right (And.right (And.right (And.right (And.right (And.right (And.right (And.right (And.right (And.right (And.right (by assumption))))))))))))))))); (case z2 => (refine ltN ?_; omega)); (case z3 => (refine ltN ?_; omega)); (case z4 => (refine ltN ?_; omega)))
    omega
  · (with_reducible rename News _ _ _ _ => gN)
    (try simp only [List.push_toArray] at gN)
    k_dflt (refine' (hret _ _ _ _ _ t12 _ _ _ ?zi ?zp ?zo ?z1 ?z2 ?z3 ?z4 ?zF ?zN).2 ?zc; (case zF => (refine fr_ub (by with_reducible assumption) ?_; (repeat' (first | exact lkup0 | refine lkupc ?_ ?_)) <;> rfl)); (case zN => (refine news_sub (by with_reducible assumption) ?_; (repeat' (first | with_reducible_and_instances apply sub_refl | refine sub_cons (by with_reducible_and_instances k_mem) ?_ | refine sub_skip ?_)))); (case zi => assumption); (case zp => assumption); (case zo => assumption); (case z1 => (first | with_reducible_and_instances assumption | (refine ktn_ltOf ?_; with_reducible_and_instances (first | assumption | exact And.right (by assumption) | exact And.right (And.right (by assumption)) | exact And.right (And.right (And.right (by assumption))) | exact And.right (And.right (And.right (And.right (by assumption)))) | exact And.right (And.right (And.right (And.right (And.right (by assumption))))) | exact And.right (And.right (And.right (And.right (And.right (And.right (by assumption)))))) | exact And.right (And.right (And.right (And.right (And.right (And.right (And.right (by assumption))))))) | exact And.right (And.right (And.right (And.right (And.right (And.right (And.right (And.right (by assumption)))))))) | exact And.right (And.right (And.right (And.right (And.right (And.right (And.right (And.right (And.right (by assumption))))))))) | exact And.right (And.right (And.right (And.right (And.right (And.right (And.right (And.right (And.right (And.right (by assumption)))))))))) | exact And.right (And.right (And.right (And.right (And.right (And.right (And.right (And.right (And.right (And.right (And.right (by assumption))))))))))) | exact And.right (And.right (And.right (And.right (And.right (And.right (And.right (And.right (And.right (And.right (And.right (And.right (by assumption)))))))))))) | exact And.right (And.right (And.right (And.right (And.right (And.right (And.right (And.right (And.right (And.right (And.right (And.right (And.right (by assumption))))))))))))))))); (case z2 => (refine ltN ?_; omega)); (case z3 => (refine ltN ?_; omega)); (case z4 => (refine ltN ?_; omega)))
    have z9 : ¬ ((vs.toArray.size : Nat) : Int) < 3 := by assumption
    rw [List.size_toArray] at z9
    omega
end Mine
end
theorem Mine.walk_off_LC6 : True := by
  w_top off
  exact True.intro
section
open PySem PySem.W PyProof.Rows
set_option Elab.async false
set_option maxRecDepth 100000
set_option maxHeartbeats 8000000
namespace Mine
/-- what is told of a reply's text -/
noncomputable def ReplyOk (m d0 d1 d2 : Nat) : Prop := ∃ o, Found ((octs (replyT m d0 d1 d2)).toArray.map (·.toNat)) o ∧ (∀ a q, o = some (a, q) → ((octs (replyT m d0 d1 d2)).toArray.extract (a + 7) q).any Builtin.Bytes.isSpace = true) ∧ grp (octs (replyT m d0 d1 d2)) o = [apl d0, apl d1, octs (nt d2)].filter (· ≠ []) ∧
  r229 (replyT m d0 d1 d2) = some (.port d2) ∧ (∀ c ∈ (replyT m d0 d1 d2).cps.toList, c < 256) ∧ (replyT m d0 d1 d2).cps.size < 1000 ∧ 8 ≤ (replyT m d0 d1 d2).cps.size
theorem apl_nil {n : Nat} : apl n = [] ↔ n = 0 := by
  constructor
  · intro h
    apply Decidable.byContradiction
    intro h0
    rw [apl_pos h0] at h
    simp at h
  · intro h; subst h; exact apl_zero
theorem filt_len {d0 d1 : Nat} {z : List UInt8} (hz : z ≠ []) : ([apl d0, apl d1, z].filter (· ≠ [])).length ≤ 3 ∧ (([apl d0, apl d1, z].filter (· ≠ [])).length < 3 ↔ (d0 = 0 ∨ d1 = 0)) := by
  by_cases h0 : d0 = 0 <;> by_cases h1 : d1 = 0 <;> simp [h0, h1, hz, apl_nil, apl_zero]
theorem lt47 {tab : List (Addr × Obj)} {x : Addr} (hT : Tab tab) (h : ∀ p ∈ tab, p.1 < x) : x ≠ 47 := by
  obtain ⟨o, ho⟩ := tab_47 hT
  exact (Nat.ne_of_lt (h _ ho)).symm
theorem ltne {l : List (Addr × Obj)} {x : Addr} (h : ∀ p ∈ l, p.1 < x) : ∀ q ∈ l, x ≠ q.1 := fun q hq => (Nat.ne_of_lt (h q hq)).symm
theorem off2_at {x : Addr} {o : Obj} {tab l : List (Addr × Obj)} (h : Off2 tab ((x, o) :: l)) : ∀ q ∈ tab, x ≠ q.1 := fun q hq => h q hq _ (.head _)
theorem off2_tl {x : Addr × Obj} {tab l : List (Addr × Obj)} (h : Off2 tab (x :: l)) : Off2 tab l := fun q hq p hp => h q hq p (.tail _ hp)
theorem in_tab {x y : Addr × Obj} {tab l : List (Addr × Obj)} : ∀ p ∈ tab, p ∈ x :: y :: (tab ++ l) := fun _ h => .tail _ (.tail _ (List.mem_append_left _ h))
theorem in_els {x y : Addr × Obj} {tab l : List (Addr × Obj)} : ∀ p ∈ l, p ∈ x :: y :: (tab ++ l) := fun _ h => .tail _ (.tail _ (List.mem_append_right _ h))
theorem perm4 {x1 x2 x3 x4 x5 : Addr × Obj} {tab els : List (Addr × Obj)} : ∀ p ∈ x3 :: x4 :: (tab ++ (x1 :: x2 :: x5 :: els)), p ∈ x1 :: x2 :: x3 :: x4 :: x5 :: (tab ++ els) :=
  sub_cons (.tail _ (.tail _ (.head _))) (sub_cons (.tail _ (.tail _ (.tail _ (.head _)))) (sub_app (sub_skip (sub_skip (sub_skip (sub_skip (sub_skip sub_l))))) (sub_cons (.head _) (sub_cons (.tail _ (.head _)) (sub_cons (.tail _ (.tail _ (.tail _ (.tail _ (.head _))))) (sub_skip (sub_skip (sub_skip (sub_skip (sub_skip (sub_r sub_refl)))))))))))
theorem perm5 {n wl r x1 x2 x5 : Addr × Obj} {tab els : List (Addr × Obj)} : ∀ p ∈ n :: x1 :: x2 :: x5 :: wl :: (tab ++ els), p ∈ n :: wl :: r :: (tab ++ (x1 :: x2 :: x5 :: els)) := by
  refine sub_cons (.head _) (sub_cons ?_ (sub_cons ?_ (sub_cons ?_ (sub_cons (.tail _ (.head _)) (sub_skip (sub_skip (sub_skip (sub_app sub_l (sub_r (sub_skip (sub_skip (sub_skip sub_refl)))))))))))) 
  · exact .tail _ (.tail _ (.tail _ (List.mem_append_right _ (.head _))))
  · exact .tail _ (.tail _ (.tail _ (List.mem_append_right _ (.tail _ (.head _)))))
  · exact .tail _ (.tail _ (.tail _ (List.mem_append_right _ (.tail _ (.tail _ (.head _))))))
theorem law_ct {w : World} {p : Program} {loose : List Str} {mean : ExcName → Option Value} {mg mb : Str → Option Value} {dp un : Nat} {gd : Option (List Code)} {a9 : Addr} {ccd : Value} {A₀ : Around} {h₀ : Heap} {L : Addr} {s : Shared} {Q : Flow → Shared → Prop} {E : Value → Shared → Prop} {cs : Scope} {u : Str → Option Value} {tab els : List (Addr × Obj)} {r ls : Addr} {i d a b c : Int} {lv : List Value} {t0 t1 ta tb tc : Tok} {k k2 : Nat} {st0 st1 st2 st3 st4 st5 st6 st7 st8 st9 st10 st11 st12 : Stmt}
  (B : Below A₀ h₀ [] h₀) (F : Fr h₀ L s.heap (ub u [(Str.ofString "turn", .int i t0), (Str.ofString "ring", .ref r), (Str.ofString "dress", .int d t1), (Str.ofString "lists", .ref ls)])) (X : (hd.heap_39 w.params).In h₀) (N : News h₀ L s.heap ((r, listOf #[.int a ta, .int b tb, .int c tc] k) :: (ls, listOf lv.toArray k2) :: (tab ++ els))) (T : Top p loose mean mg mb h₀) (hp : lawForSeg 8 0 13 w.params = some ([st0, st1, st2, st3, st4, st5, st6, st7, st8, st9, st10, st11, st12], cs))
  (hdp : dp + 100 < recursionLimit) (hu : un + 9000 < cLine) (hC : CodeHd h₀ 51 47) (hT : Tab tab) (h2 : 0 ≤ d ∧ d < 24) (hi : 0 ≤ i ∧ i < 20) (g0 : (a - b).natAbs < 2 ^ 110) (g1 : (c - b).natAbs < 2 ^ 110) (g2 : (c - a).natAbs < 2 ^ 110) (hlv : lv.length ≤ 20)
  (ho : Off2 tab ((r, listOf #[] 0) :: (ls, listOf #[] 0) :: els)) (h47 : ∀ p ∈ (r, listOf #[] 0) :: (ls, listOf #[] 0) :: els, p.1 ≠ 47) (hels : ∀ p ∈ els, p.1 ≠ ls) (hpl : ∀ m ∈ [9, 10, 11, 12, 13, 32], ReplyOk m (a - b).natAbs (c - b).natAbs (c - a).natAbs)
  (hret : ∀ (mk : Nat) tab' rl sl fl wl (v vs : List Value) (n : List Int) cc (t5 t6 t7 t8 t9 t10 t11 t12 t13 : Tok) h' tk' m', mk ∈ [9, 10, 11, 12, 13, 32] → Tab tab' → Off2 tab' ((ls, listOf #[] 0) :: els) → IntsAre v n → n.Perm [(((a - b).natAbs : Nat) : Int), (((c - b).natAbs : Nat) : Int), (((c - a).natAbs : Nat) : Int)] → n.Pairwise (· ≤ ·) →
    Paired BV ([apl (a - b).natAbs, apl (c - b).natAbs, octs (nt (c - a).natAbs)].filter (· ≠ [])) vs → (∀ p ∈ tab' ++ els, p.1 < rl) → ls < rl → rl < sl → ls < wl → ls < fl → (∀ p ∈ els, p.1 < wl) → (∀ p ∈ els, p.1 < fl) →
    Fr h₀ L h' (ub m' [(Str.ofString "ring", .ref rl), (Str.ofString "flags", .ref fl), (Str.ofString "words", .ref wl), (Str.ofString "far", .int (((c - a).natAbs : Nat) : Int) t5), (Str.ofString "mark", .str ⟨#[mk]⟩ t6), (Str.ofString "body", .str (bodyT mk (a - b).natAbs (c - b).natAbs (c - a).natAbs) t7), (Str.ofString "reply", .str (replyT mk (a - b).natAbs (c - b).natAbs (c - a).natAbs) t8), (Str.ofString "dress", .int d t1), (Str.ofString "lists", .ref ls)]) → News h₀ L h' ((sl, listOf v.toArray cc) :: (rl, listOf #[.int (((a - b).natAbs : Nat) : Int) t9, .int (((c - b).natAbs : Nat) : Int) t10, .int (((c - a).natAbs : Nat) : Int) t11] 0) :: (fl, ({ cls := .type "tuple", data := .seq vs.toArray } : Obj)) :: (ls, listOf (lv ++ [Value.ref sl]).toArray (k2 + 1)) :: (wl, listOf #[.bytes (apl (a - b).natAbs).toArray t12, .bytes (apl (c - b).natAbs).toArray t13] 0) :: (tab' ++ els)) →
    (((a - b).natAbs = 0 ∨ (c - b).natAbs = 0 ∨ (c - a).natAbs = 0) → Q .brk { s with heap := h', toks := tk' }) ∧ (¬ ((a - b).natAbs = 0 ∨ (c - b).natAbs = 0 ∨ (c - a).natAbs = 0) → Q .next { s with heap := h', toks := tk' })) :
  wpAny (model PySem.Challenge.rw_xi0006_01.row.prog w) (ktrTop dp un gd (Str.ofString "law") cs L a9 ccd [] []) (execs [st0, st1, st2, st3, st4, st5, st6, st7, st8, st9, st10, st11, st12] (envX (Str.ofString "law") cs L a9 ccd [])) Q E s := by
  refine' use_parts hp (y := ([?sta0, ?sta1, ?sta2, ?sta3, ?sta4, ?sta5, ?sta6, ?sta7, ?sta8, ?sta9, ?sta10, ?sta11, ?sta12], Scope.mk ?sc1 ?sc2 ?sc3 ?sc4 ?sc5)) ?e ?_
  case e => k_dflt (unfold lawForSeg lawFor lawParts; rfl)
  intro e9
  cases e9
  refine execs_app (l := [_, _, _, _, _]) (r := [_, _, _, _, _, _, _, _]) ?_
  k_dflt (refine' law_c1 B F X N T ?hp1 hdp hu (.head _) h2 hi g0 g1 g2 ?_)
  case hp1 => k_dflt (unfold lawForSeg lawFor lawParts; rfl)
  intro mk wl t5 t6 t7 t8 t12 t13 h1 tk1 m1 hmk hwl F1 N1
  obtain ⟨o, hf, hsp, hg, hrd, ho1, ho2, ho3⟩ := hpl mk hmk
  refine execs_app (l := [_, _]) (r := [_, _, _, _, _, _]) ?_
  k_dflt (refine' law_c2 B F1 X N1 T ?hp2 hdp hu hwl ho1 ho2 ho3 hf hsp hg (apl_len g0) (apl_len g1) g2 hrd ?_)
  case hp2 => k_dflt (unfold lawForSeg lawFor lawParts; rfl)
  intro fl tl vs t14 t15 h2' tk2 m2 P2 lf2 lt2 l1 l2 l3 F2 N2
  refine execs_app (l := [_]) (r := [_, _, _, _, _]) ?_
  k_dflt (refine' law_c3 B F2 X N2 T ?hp3 hdp hu hwl l1 l3 P2 hg g2 ?_)
  case hp3 => k_dflt (unfold lawForSeg lawFor lawParts; rfl)
  intro h3' tk3 m3 F3 N3
  refine execs_app (l := [_, _]) (r := [_, _, _]) ?_
  have q1 : ∀ p ∈ tab, p.1 < wl := fun p hp => hwl p (in_tab p hp)
  have q2 : ∀ p ∈ tab, p.1 < tl := fun p hp => lt2 p (in_tab p hp)
  have q3 : ∀ p ∈ tab, p.1 < fl := fun p hp => lf2 p (in_tab p hp)
  have N4 := news_sub N3 perm4
  k_dflt (refine' law_c4 (t11 := 0) (t12 := 0) B F3 X N4 T ?hp4 hdp hu hC hT ?ho4 ?h474 g0 g1 ?_)
  case hp4 => k_dflt (unfold lawForSeg lawFor lawParts; rfl)
  case ho4 => exact off2_cons (ltne q1) (off2_cons (fun q hq => ho q hq _ (.head _)) (off2_cons (ltne q2) (off2_cons (ltne q3) (off2_cons (fun q hq => ho q hq _ (.tail _ (.head _))) (off2_tl (off2_tl ho))))))
  case h474 => exact List.forall_mem_cons.mpr ⟨lt47 hT q1, List.forall_mem_cons.mpr ⟨h47 _ (.head _), List.forall_mem_cons.mpr ⟨lt47 hT q2, List.forall_mem_cons.mpr ⟨lt47 hT q3, List.forall_mem_cons.mpr ⟨(h47 _ (.tail _ (.head _)) :), fun p hp => h47 p (.tail _ (.tail _ hp))⟩⟩⟩⟩⟩
  intro tab' nl t9 t10 k' h4' tk4 m4 hT' hO' z1 z2 z3 z4 F4 N4'
  have N5 := news_sub N4' perm5
  have c1 : ls < wl := hwl _ (.tail _ (.head _))
  have c2 : ls < tl := lt2 _ (.tail _ (.head _))
  have c3 : ls < fl := lf2 _ (.tail _ (.head _))
  have hol : ∀ q ∈ tab', ls ≠ q.1 := fun q hq => hO' q hq _ (.tail _ (.tail _ (.tail _ (.tail _ (.tail _ (.head _))))))
  have hvl : vs.length = ([apl (a - b).natAbs, apl (c - b).natAbs, octs (nt (c - a).natAbs)].filter (· ≠ [])).length := by rw [paired_len P2, hg]
  have hfl := filt_len (d0 := (a - b).natAbs) (d1 := (c - b).natAbs) (octs_ne (c - a).natAbs)
  k_dflt (refine' law_c5 (t9 := 0) (t10 := 0) B F4 X N5 T ?hp5 hdp hu ?hvs hlv g2 ?e1 ?e2 ?e3 ?e4 ?_)
  case hp5 => k_dflt (unfold lawForSeg lawFor lawParts; rfl)
  case hvs => rw [hvl]; exact hfl.1
  case e1 => exact (z1 _ (.tail _ (.tail _ (.head _)))).symm
  case e2 => exact (Nat.ne_of_lt c2).symm
  case e3 => exact (Nat.ne_of_lt c3).symm
  case e4 => exact List.forall_mem_cons.mpr ⟨(Nat.ne_of_lt c1).symm, sub_app2 (fun q hq => (hol q hq).symm) hels⟩
  intro rl sl v n cc t11 h5 tk5 m5 hi5 hp5 ho5 lr1 lr2 lr3 lr4 F5 N5'
  have H := hret mk tab' rl sl fl wl v vs n cc t5 t6 t7 t8 t9 t10 t11 t12 t13 h5 tk5 m5 hmk hT' (off2_cons hol (off2_drop3 (off2_drop3 hO'))) hi5 hp5 ho5 (hg ▸ P2) (fun p hp => lr1 p (.tail _ hp)) lr2 lr3 c1 c3 (fun p hp => hwl p (in_els p hp)) (fun p hp => lf2 p (in_els p hp)) F5 N5'
  have e9 : (vs.length < 3 ∨ (c - a).natAbs = 0) ↔ ((a - b).natAbs = 0 ∨ (c - b).natAbs = 0 ∨ (c - a).natAbs = 0) := by
    rw [hvl, hfl.2]
    constructor
    · rintro ((h | h) | h)
      · exact .inl h
      · exact .inr (.inl h)
      · exact .inr (.inr h)
    · rintro (h | h | h)
      · exact .inl (.inl h)
      · exact .inl (.inr h)
      · exact .inr h
  exact ⟨fun h => H.1 (e9.mp h), fun h => H.2 (fun h' => h (e9.mpr h'))⟩
end Mine
end
theorem Mine.walk_off_GM : True := by
  w_top off
  exact True.intro
section
open PySem
namespace Mine
/-- how far the three are from each other -/
noncomputable def dif (t : Int × Int × Int) : Nat × Nat × Nat := ((t.1 - t.2.1).natAbs, (t.2.2 - t.2.1).natAbs, (t.2.2 - t.1).natAbs)
noncomputable def up3 (t : Nat × Nat × Nat) : Int × Int × Int := ((t.1 : Int), (t.2.1 : Int), (t.2.2 : Int))
/-- the rings, in units -/
noncomputable def trip (v1 v2 : Int) : Nat → Int × Int × Int
  | 0 => (0, v1, v2)
  | i + 1 => up3 (dif (trip v1 v2 i))
noncomputable def fin3 (t : Nat × Nat × Nat) : Bool := t.1 == 0 || t.2.1 == 0 || t.2.2 == 0
noncomputable def rng : List Int := [-7, -6, -5, -4, -3, -2, -1, 0, 1, 2, 3, 4, 5, 6, 7]
theorem rng_at (k : Nat) (h : k < 15) : (k : Int) - 7 ∈ rng := by
  revert k; decide
theorem in_rng {v : Int} (h : -7 ≤ v ∧ v ≤ 7) : v ∈ rng := by
  obtain ⟨h1, h2⟩ := h
  have e : ((v + 7).toNat : Int) - 7 = v := by rw [Int.toNat_of_nonneg (by omega)]; omega
  rw [← e]
  exact rng_at _ (by omega)
/-- the least, the middle, the greatest -/
noncomputable def srt (t : Nat × Nat × Nat) : Nat × Nat × Nat :=
  let lo := min t.1 (min t.2.1 t.2.2)
  let hi := max t.1 (max t.2.1 t.2.2)
  (lo, t.1 + t.2.1 + t.2.2 - lo - hi, hi)
/-- the rings from one on: bounds, and the lists of the game -/
noncomputable def rings : Nat → Int × Int × Int → List (Nat × Nat × Nat)
  | 0, _ => []
  | k + 1, t => if fin3 (dif t) then [dif t] else dif t :: rings k (up3 (dif t))
noncomputable def okGame (v1 v2 : Int) : Bool :=
  let l := rings 20 (0, v1, v2)
  match l.head?, l.getLast? with
  | some a, some z =>
    l.all (fun t => decide (t.1 ≤ 14) && decide (t.2.1 ≤ 14) && decide (t.2.2 ≤ 14)) && fin3 z &&
    (match euc 12 ((srt a).2.1 : Int) ((srt a).1 : Int) with
     | some (row, g) => decide (l.map (fun t => ((srt t).1 : Int)) = row) && decide (((srt z).1 : Int) = 0) && decide (((srt z).2.1 : Int) = g) && decide (((srt z).2.2 : Int) = g)
     | none => false)
  | _, _ => false
theorem all_games : (rng.all fun v1 => rng.all fun v2 => okGame v1 v2) = true := by decide +kernel
theorem game {v1 v2 : Int} (h1 : -7 ≤ v1 ∧ v1 ≤ 7) (h2 : -7 ≤ v2 ∧ v2 ≤ 7) : okGame v1 v2 = true := by
  have a := List.all_eq_true.mp all_games v1 (in_rng h1)
  exact List.all_eq_true.mp a v2 (in_rng h2)
theorem euc_scale (u : Int) (hu : 0 < u) : ∀ (k : Nat) (x y : Int), euc k (x * u) (y * u) = (euc k x y).map fun p => (p.1.map (· * u), p.2 * u)
  | 0, _, _ => rfl
  | k + 1, x, y => by
    unfold euc
    by_cases h : y = 0
    · subst h
      rw [if_pos (by simp), if_pos rfl]
      simp
    · have hy : y * u ≠ 0 := Int.mul_ne_zero h (by omega)
      have hm : x * u % (y * u) = x % y * u := by rw [Int.mul_comm x, Int.mul_comm y, Int.mul_emod_mul_of_pos _ _ hu, Int.mul_comm]
      rw [if_neg hy, if_neg h, hm, euc_scale u hu k]
      have hd : x * u / (y * u) = x / y := Int.mul_ediv_mul_of_pos_left _ _ hu
      rw [hd, Option.map_map, Option.map_map]
      congr 1
      funext p
      simp
theorem dif_scale (B f g u : Int) (hu : 0 < u) : ((B + f * u) - (B + g * u)).natAbs = (f - g).natAbs * u.toNat := by
  have e : (B + f * u) - (B + g * u) = (f - g) * u := by rw [Int.sub_mul]; omega
  rw [e, Int.natAbs_mul]
  congr 1
  omega
end Mine
namespace Mine
/-- a sorted list of the three, in units of u -/
noncomputable def sl (u : Int) (t : Nat × Nat × Nat) : List Int := [((srt t).1 : Int) * u, ((srt t).2.1 : Int) * u, ((srt t).2.2 : Int) * u]
theorem srt3 {x y z lo mi hi : Nat} (hl : min x (min y z) = lo) (hh : max x (max y z) = hi) (hs : x + y + z = lo + (hi + mi)) : srt (x, y, z) = (lo, mi, hi) := by
  unfold srt
  simp only [hl, hh, hs, Nat.add_sub_cancel_left]
theorem srt_cases (x y z : Nat) : ∃ a b c, srt (x, y, z) = (a, b, c) ∧ a ≤ b ∧ b ≤ c ∧ ([a, b, c] : List Nat).Perm [x, y, z] := by
  rcases Nat.le_total x y with h1 | h1 <;> rcases Nat.le_total y z with h2 | h2
  · have h3 := Nat.le_trans h1 h2
    exact ⟨x, y, z, srt3 (by rw [Nat.min_eq_left h2, Nat.min_eq_left h1]) (by rw [Nat.max_eq_right h2, Nat.max_eq_right h3]) (by omega), h1, h2, .refl _⟩
  · rcases Nat.le_total x z with h3 | h3
    · exact ⟨x, z, y, srt3 (by rw [Nat.min_eq_right h2, Nat.min_eq_left h3]) (by rw [Nat.max_eq_left h2, Nat.max_eq_right h1]) (by omega), h3, h2, .cons _ (.swap _ _ _)⟩
    · exact ⟨z, x, y, srt3 (by rw [Nat.min_eq_right h2, Nat.min_eq_right h3]) (by rw [Nat.max_eq_left h2, Nat.max_eq_right h1]) (by omega), h3, h1, .trans (.swap _ _ _) (.cons _ (.swap _ _ _))⟩
  · rcases Nat.le_total x z with h3 | h3
    · exact ⟨y, x, z, srt3 (by rw [Nat.min_eq_left h2, Nat.min_eq_right h1]) (by rw [Nat.max_eq_right h2, Nat.max_eq_right h3]) (by omega), h1, h3, .swap _ _ _⟩
    · exact ⟨y, z, x, srt3 (by rw [Nat.min_eq_left h2, Nat.min_eq_right h1]) (by rw [Nat.max_eq_right h2, Nat.max_eq_left h3]) (by omega), h2, h3, .trans (.cons _ (.swap _ _ _)) (.swap _ _ _)⟩
  · have h3 := Nat.le_trans h2 h1
    exact ⟨z, y, x, srt3 (by rw [Nat.min_eq_right h2, Nat.min_eq_right h3]) (by rw [Nat.max_eq_left h2, Nat.max_eq_left h1]) (by omega), h2, h1, .trans (.swap _ _ _) (.trans (.cons _ (.swap _ _ _)) (.swap _ _ _))⟩
theorem srt_ints {u : Int} (hu : 0 < u) {x y z : Nat} {n : List Int} (hp : n.Perm [((x * u.toNat : Nat) : Int), ((y * u.toNat : Nat) : Int), ((z * u.toNat : Nat) : Int)]) (ho : n.Pairwise (· ≤ ·)) : n = sl u (x, y, z) := by
  obtain ⟨a, b, c, e, h1, h2, hq⟩ := srt_cases x y z
  have hu' : ((u.toNat : Nat) : Int) = u := by omega
  have e2 : sl u (x, y, z) = [(a : Int) * u, (b : Int) * u, (c : Int) * u] := by unfold sl; rw [e]
  have hm := hq.map (fun k : Nat => (k : Int) * u)
  have hp' : n.Perm [(a : Int) * u, (b : Int) * u, (c : Int) * u] := by
    refine hp.trans ?_
    have e3 : [((x * u.toNat : Nat) : Int), ((y * u.toNat : Nat) : Int), ((z * u.toNat : Nat) : Int)] = [x, y, z].map (fun k : Nat => (k : Int) * u) := by
      simp [hu']
    rw [e3]
    exact hm.symm
  rw [e2]
  refine List.Perm.eq_of_pairwise (le := (· ≤ ·)) (fun p q _ _ h h' => Int.le_antisymm h h') ho ?_ hp'
  have k1 : (a : Int) * u ≤ b * u := Int.mul_le_mul_of_nonneg_right (by omega) (by omega)
  have k2 : (b : Int) * u ≤ c * u := Int.mul_le_mul_of_nonneg_right (by omega) (by omega)
  refine .cons ?_ (.cons ?_ (.cons ?_ .nil))
  · intro p hp
    simp only [List.mem_cons, List.not_mem_nil, or_false] at hp
    rcases hp with rfl | rfl <;> omega
  · intro p hp
    simp only [List.mem_cons, List.not_mem_nil, or_false] at hp
    subst hp; exact k2
  · intro p hp; cases hp
end Mine
end
theorem Mine.walk_off_LC7 : True := by
  w_top off
  exact True.intro
section
open PySem PySem.W PyProof.Rows
set_option Elab.async false
set_option maxRecDepth 100000
set_option maxHeartbeats 8000000
namespace Mine
noncomputable def ElAt (els : List (Addr × Obj)) (n : List Int) (x : Value) : Prop := ∃ s v cc, x = .ref s ∧ (s, listOf (List.toArray v) cc) ∈ els ∧ IntsAre v n
theorem ElAt.mono {els els' : List (Addr × Obj)} {n : List Int} {x : Value} (h : ElAt els n x) (hs : ∀ p ∈ els, p ∈ els') : ElAt els' n x := let ⟨s, v, cc, a, b, c⟩ := h; ⟨s, v, cc, a, hs _ b, c⟩
theorem paired_mono {α β : Type} {F G : α → β → Prop} (h : ∀ a b, F a b → G a b) : ∀ {l : List α} {r : List β}, Paired F l r → Paired G l r
  | _, _, .nil => .nil
  | _, _, .cons a r => .cons (h _ _ a) (paired_mono h r)
theorem small_mul {a : Nat} {u : Int} (h : a ≤ 14) (h3 : 1 ≤ u ∧ u ≤ 65536) : a * u.toNat < 2 ^ 110 := by
  have : a * u.toNat ≤ 14 * 65536 := Nat.mul_le_mul h (by omega)
  exact Nat.lt_of_le_of_lt this (by decide)
theorem fin3_mul {x y z : Nat} {u : Int} (h3 : 1 ≤ u ∧ u ≤ 65536) : (x * u.toNat = 0 ∨ y * u.toNat = 0 ∨ z * u.toNat = 0) ↔ fin3 (x, y, z) = true := by
  have hu : u.toNat ≠ 0 := by omega
  simp [fin3, hu, Nat.mul_eq_zero, or_assoc]
theorem perm6 {I s r f l w : Addr × Obj} {tab els : List (Addr × Obj)} : ∀ p ∈ f :: l :: w :: (tab ++ (s :: els)), p ∈ s :: r :: f :: l :: w :: (tab ++ (I :: els)) := by
  refine sub_cons (.tail _ (.tail _ (.head _))) (sub_cons (.tail _ (.tail _ (.tail _ (.head _)))) (sub_cons (.tail _ (.tail _ (.tail _ (.tail _ (.head _))))) (sub_app ?_ (sub_cons (.head _) ?_))))
  · exact sub_skip (sub_skip (sub_skip (sub_skip (sub_skip sub_l))))
  · exact sub_skip (sub_skip (sub_skip (sub_skip (sub_skip (sub_r (sub_skip sub_refl))))))
theorem perm7 {I s r f l w : Addr × Obj} {tab els : List (Addr × Obj)} : ∀ p ∈ I :: r :: l :: (tab ++ (s :: els)), p ∈ s :: r :: f :: l :: w :: (tab ++ (I :: els)) := by
  refine sub_cons ?_ (sub_cons (.tail _ (.head _)) (sub_cons (.tail _ (.tail _ (.tail _ (.head _)))) (sub_app ?_ (sub_cons (.head _) ?_))))
  · exact .tail _ (.tail _ (.tail _ (.tail _ (.tail _ (List.mem_append_right _ (.head _))))))
  · exact sub_skip (sub_skip (sub_skip (sub_skip (sub_skip sub_l))))
  · exact sub_skip (sub_skip (sub_skip (sub_skip (sub_skip (sub_r (sub_skip sub_refl))))))
theorem perm8 {I r l : Addr × Obj} {tab els : List (Addr × Obj)} : ∀ p ∈ r :: l :: (tab ++ (I :: els)), p ∈ I :: r :: l :: (tab ++ els) :=
  sub_cons (.tail _ (.head _)) (sub_cons (.tail _ (.tail _ (.head _))) (sub_app (sub_skip (sub_skip (sub_skip sub_l))) (sub_cons (.head _) (sub_skip (sub_skip (sub_skip (sub_r sub_refl)))))))
theorem lc_loop {w : World} {p : Program} {loose : List Str} {mean : ExcName → Option Value} {mg mb : Str → Option Value} {dp un : Nat} {gd : Option (List Code)} {a9 : Addr} {ccd : Value} {A₀ : Around} {h₀ : Heap} {L : Addr} {s : Shared} {Q : Flow → Shared → Prop} {E : Value → Shared → Prop} {cs : Scope} {I ls : Addr} {d un0 : Int} {t1 : Tok} {R : List (Nat × Nat × Nat)} {st0 st1 st2 st3 st4 st5 st6 st7 st8 st9 st10 st11 st12 : Stmt}
  (B : Below A₀ h₀ [] h₀) (X : (hd.heap_39 w.params).In h₀) (T : Top p loose mean mg mb h₀) (hp : lawForSeg 8 0 13 w.params = some ([st0, st1, st2, st3, st4, st5, st6, st7, st8, st9, st10, st11, st12], cs))
  (hdp : dp + 100 < recursionLimit) (hu : un + 9000 < cLine) (hC : CodeHd h₀ 51 47) (hpl : ∀ z ∈ R, ∀ m ∈ [9, 10, 11, 12, 13, 32], ReplyOk m (z.1 * un0.toNat) (z.2.1 * un0.toNat) (z.2.2 * un0.toNat)) (h2 : 0 ≤ d ∧ d < 24) (h3 : 1 ≤ un0 ∧ un0 ≤ 65536) (hI47 : I ≠ 47) (hls47 : ls ≠ 47) (hlsI : ls < I)
  (hR1 : ∀ t ∈ R, t.1 ≤ 14 ∧ t.2.1 ≤ 14 ∧ t.2.2 ≤ 14) (hR2 : ∃ z, R.getLast? = some z ∧ fin3 z = true)
  (hret : ∀ (mk : Nat) (z : Nat × Nat × Nat) tab els (lv vs : List Value) fl wl k2 (t5 t6 t7 t8 t12 t13 : Tok) h' tk' m', mk ∈ [9, 10, 11, 12, 13, 32] → R.getLast? = some z → Tab tab → Paired (fun t x => ElAt els (sl un0 t) x) R lv → Paired BV ([apl (z.1 * un0.toNat), apl (z.2.1 * un0.toNat), octs (nt (z.2.2 * un0.toNat))].filter (· ≠ [])) vs →
    Fr h₀ L h' (ub m' [(Str.ofString "flags", .ref fl), (Str.ofString "words", .ref wl), (Str.ofString "far", .int (((z.2.2 * un0.toNat) : Nat) : Int) t5), (Str.ofString "mark", .str ⟨#[mk]⟩ t6), (Str.ofString "body", .str (bodyT mk (z.1 * un0.toNat) (z.2.1 * un0.toNat) (z.2.2 * un0.toNat)) t7), (Str.ofString "reply", .str (replyT mk (z.1 * un0.toNat) (z.2.1 * un0.toNat) (z.2.2 * un0.toNat)) t8), (Str.ofString "lists", .ref ls)]) → News h₀ L h' ((fl, ({ cls := .type "tuple", data := .seq vs.toArray } : Obj)) :: (ls, listOf lv.toArray k2) :: (wl, listOf #[.bytes (apl (z.1 * un0.toNat)).toArray t12, .bytes (apl (z.2.1 * un0.toNat)).toArray t13] 0) :: (tab ++ els)) → Q .next { s with heap := h', toks := tk' }) :
  ∀ (k i : Nat) (t : Int × Int × Int) (done : List (Nat × Nat × Nat)) (Bb : Int) (r : Addr) (tab els : List (Addr × Obj)) (lv : List Value) (u : Str → Option Value) (ta tb tc : Tok) (kk k2 : Nat),
    i + k = 20 → R = done ++ rings k t → (∀ x ∈ done, fin3 x = false) → done.length = i → Paired (fun t x => ElAt els (sl un0 t) x) done lv → Tab tab → Off2 tab ((r, listOf #[] 0) :: (ls, listOf #[] 0) :: (I, listOf #[] 0) :: els) →
    (∀ p ∈ (r, (listOf #[] 0 : Obj)) :: els, p.1 ≠ 47) → (∀ p ∈ els, p.1 ≠ ls) → (∀ p ∈ els, p.1 ≠ I) → r ≠ I →
    RangeRest PySem.Challenge.rw_xi0006_01.row.prog w (ktrTop dp un gd (Str.ofString "law") cs L a9 ccd [] []) E h₀ (envX (Str.ofString "law") cs L a9 ccd []) (Str.ofString "turn") [st0, st1, st2, st3, st4, st5, st6, st7, st8, st9, st10, st11, st12] Q s I 0 20 k i (ub u [(Str.ofString "ring", .ref r), (Str.ofString "dress", .int d t1), (Str.ofString "lists", .ref ls)]) ((r, listOf #[.int (Bb + t.1 * un0) ta, .int (Bb + t.2.1 * un0) tb, .int (Bb + t.2.2 * un0) tc] kk) :: (ls, listOf lv.toArray k2) :: (tab ++ els)) := by
  intro k
  induction k with
  | zero =>
    intro i t done Bb r tab els lv u ta tb tc kk k2 hik hR hdn hdl hP hT ho h47 hels helI hrI
    exfalso
    obtain ⟨z, hz, hz2⟩ := hR2
    have e : R = done := by rw [hR]; simp [rings]
    rw [e] at hz
    have := hdn z (List.mem_of_getLast? hz)
    rw [hz2] at this
    cases this
  | succ k ih =>
    intro i t done Bb r tab els lv u ta tb tc kk k2 hik hR hdn hdl hP hT ho h47 hels helI hrI
    have hdR : dif t ∈ R := by
      rw [hR]
      refine List.mem_append_right _ ?_
      unfold rings
      split
      · exact .head _
      · exact .head _
    have hb := hR1 _ hdR
    have hpos : 0 < un0 := by omega
    have e0 : ((Bb + t.1 * un0) - (Bb + t.2.1 * un0)).natAbs = (dif t).1 * un0.toNat := dif_scale _ _ _ _ hpos
    have e1 : ((Bb + t.2.2 * un0) - (Bb + t.2.1 * un0)).natAbs = (dif t).2.1 * un0.toNat := dif_scale _ _ _ _ hpos
    have e2 : ((Bb + t.2.2 * un0) - (Bb + t.1 * un0)).natAbs = (dif t).2.2 * un0.toNat := dif_scale _ _ _ _ hpos
    have hll : lv.length = i := by rw [paired_len hP, hdl]
    refine RangeRest.succ ?_
    intro tt h tk F1 N1
    have F2 := fr_ub F1 (l := [(Str.ofString "turn", .int (0 + (i : Int)) tt), (Str.ofString "ring", .ref r), (Str.ofString "dress", .int d t1), (Str.ofString "lists", .ref ls)]) (by (repeat' (first | exact lkup0 | refine lkupc ?_ ?_)) <;> rfl)
    have N2 := news_sub N1 perm8
    k_dflt (refine' law_ct B F2 X N2 T hp hdp hu hC hT h2 ?hi (by rw [e0]; exact small_mul hb.1 h3) (by rw [e1]; exact small_mul hb.2.1 h3) (by rw [e2]; exact small_mul hb.2.2 h3) ?hlv ?ho ?h47 ?hels (by rw [e0, e1, e2]; exact hpl _ hdR) ?_)
    case hi => omega
    case hlv => omega
    case ho => exact off2_cons (off2_at ho) (off2_cons (off2_at (off2_tl ho)) (off2_cons (off2_at (off2_tl (off2_tl ho))) (off2_tl (off2_tl (off2_tl ho)))))
    case h47 => exact List.forall_mem_cons.mpr ⟨(h47 _ (.head _) :), List.forall_mem_cons.mpr ⟨hls47, List.forall_mem_cons.mpr ⟨hI47, fun p hp => h47 p (.tail _ hp)⟩⟩⟩
    case hels => exact List.forall_mem_cons.mpr ⟨(Nat.ne_of_lt hlsI).symm, hels⟩
    intro mk tab' rl slx fl wl v vs n cc t5 t6 t7 t8 t9 t10 t11 t12 t13 h' tk' m' hmk hT' hO' hiv hpn hon hPv lr1 lr2 lr3 lw lf lew lef F3 N3
    rw [e0, e1, e2] at hpn hPv F3 N3
    rw [e0, e1, e2]
    have hn : n = sl un0 (dif t) := srt_ints hpos hpn hon
    have lrI : I < rl := lr1 _ (List.mem_append_right _ (.head _))
    have hP' : Paired (fun t x => ElAt ((slx, listOf v.toArray cc) :: els) (sl un0 t) x) (done ++ [dif t]) (lv ++ [Value.ref slx]) :=
      Paired.snoc (paired_mono (fun _ _ h => h.mono fun _ h => .tail _ h) hP) ⟨slx, v, cc, rfl, .head _, hn ▸ hiv⟩
    rw [fin3_mul h3]
    constructor
    · intro hf
      have hR' : R = done ++ [dif t] := by rw [hR]; unfold rings; rw [if_pos hf]
      have F4 := fr_ub F3 (l := [(Str.ofString "flags", .ref fl), (Str.ofString "words", .ref wl), (Str.ofString "far", .int ((((dif t).2.2 * un0.toNat) : Nat) : Int) t5), (Str.ofString "mark", .str ⟨#[mk]⟩ t6), (Str.ofString "body", .str (bodyT mk ((dif t).1 * un0.toNat) ((dif t).2.1 * un0.toNat) ((dif t).2.2 * un0.toNat)) t7), (Str.ofString "reply", .str (replyT mk ((dif t).1 * un0.toNat) ((dif t).2.1 * un0.toNat) ((dif t).2.2 * un0.toNat)) t8), (Str.ofString "lists", .ref ls)]) (by (repeat' (first | exact lkup0 | refine lkupc ?_ ?_)) <;> rfl)
      show Q .next _
      k_dflt (refine' hret mk (dif t) tab' ((slx, listOf v.toArray cc) :: els) (lv ++ [Value.ref slx]) vs fl wl (k2 + 1) t5 t6 t7 t8 t12 t13 h' tk' _ hmk ?_ hT' ?_ hPv F4 ?_)
      · rw [hR']; simp
      · rw [hR']; exact hP'
      · exact news_sub N3 perm6
    · intro hf
      have hf' : fin3 (dif t) = false := by simpa using hf
      have hR' : R = (done ++ [dif t]) ++ rings k (up3 (dif t)) := by rw [hR]; rw [show rings (k + 1) t = dif t :: rings k (up3 (dif t)) by rw [rings, if_neg (by rw [hf']; simp)]]; simp
      have F4 := fr_ub F3 (l := [(Str.ofString "ring", .ref rl), (Str.ofString "dress", .int d t1), (Str.ofString "lists", .ref ls)]) (by (repeat' (first | exact lkup0 | refine lkupc ?_ ?_)) <;> rfl)
      have hsI : I < slx := Nat.lt_trans lrI lr3
      have hts : ∀ q ∈ tab', q.1 < slx := fun q hq => Nat.lt_trans (lr1 q (List.mem_append_left _ hq)) lr3
      have htr : ∀ q ∈ tab', q.1 < rl := fun q hq => lr1 q (List.mem_append_left _ hq)
      have hoI : ∀ q ∈ tab', I ≠ q.1 := fun q hq => hO' q hq _ (.tail _ (.head _))
      have N4 := news_sub N3 perm7
      have hu9 : ((un0.toNat : Nat) : Int) = un0 := by omega
      have c0 : ((((dif t).1 * un0.toNat : Nat)) : Int) = 0 + (up3 (dif t)).1 * un0 := by rw [Int.natCast_mul, hu9]; simp [up3]
      have c1 : ((((dif t).2.1 * un0.toNat : Nat)) : Int) = 0 + (up3 (dif t)).2.1 * un0 := by rw [Int.natCast_mul, hu9]; simp [up3]
      have c2 : ((((dif t).2.2 * un0.toNat : Nat)) : Int) = 0 + (up3 (dif t)).2.2 * un0 := by rw [Int.natCast_mul, hu9]; simp [up3]
      rw [c0, c1, c2] at N4
      refine UnrEnd.intro F4 N4 ((rl, listOf _ _) :: (ls, listOf (lv ++ [Value.ref slx]).toArray (k2 + 1)) :: (tab' ++ ((slx, listOf v.toArray cc) :: els))) (fun _ h => h) ?_ ?_
      · refine List.forall_mem_cons.mpr ⟨(Nat.ne_of_lt lrI).symm, List.forall_mem_cons.mpr ⟨Nat.ne_of_lt hlsI, sub_app2 (fun q hq => (hoI q hq).symm) (List.forall_mem_cons.mpr ⟨(Nat.ne_of_lt hsI).symm, helI⟩)⟩⟩
      · refine ih (i + 1) (up3 (dif t)) (done ++ [dif t]) 0 rl tab' ((slx, listOf v.toArray cc) :: els) (lv ++ [Value.ref slx]) _ t9 t10 t11 0 (k2 + 1) (by omega) hR' ?_ (by simp [hdl]) hP' hT' ?_ ?_ ?_ ?_ (Nat.ne_of_lt lrI).symm
        · intro x hx
          rcases List.mem_append.mp hx with h | h
          · exact hdn x h
          · rw [List.mem_singleton.mp h]; exact hf'
        · exact off2_cons (ltne htr) (off2_cons (off2_at hO') (off2_cons (off2_at (off2_tl hO')) (off2_cons (ltne hts) (off2_tl (off2_tl hO')))))
        · exact List.forall_mem_cons.mpr ⟨lt47 hT' htr, List.forall_mem_cons.mpr ⟨lt47 hT' hts, fun p hp => h47 p (.tail _ hp)⟩⟩
        · exact List.forall_mem_cons.mpr ⟨(Nat.ne_of_lt (Nat.lt_trans lr2 lr3)).symm, hels⟩
        · exact List.forall_mem_cons.mpr ⟨(Nat.ne_of_lt hsI).symm, helI⟩
end Mine
end
theorem Mine.walk_off_LC8 : True := by
  w_top off
  exact True.intro
section
open PySem PySem.W PyProof.Rows
set_option Elab.async false
set_option maxRecDepth 100000
set_option maxHeartbeats 8000000
namespace Mine
theorem led_start {h₀ h : Heap} {L r ls : Addr} {A : Obj} {b x y u : Int} {ta tb tc : Tok} {k : Nat} {tab : List (Addr × Obj)} (N : News h₀ L h ((ls, A) :: (r, listOf #[.int b ta, .int x tb, .int y tc] k) :: tab)) : News h₀ L h ((r, listOf #[.int (b + 0 * u) ta, .int x tb, .int y tc] k) :: (ls, A) :: (tab ++ [])) := by
  rw [Int.zero_mul, Int.add_zero, List.append_nil]
  exact news_sub N (sub_cons (.tail _ (.head _)) (sub_cons (.head _) (sub_skip (sub_skip sub_refl))))
theorem law_c {w : World} {p : Program} {loose : List Str} {mean : ExcName → Option Value} {mg mb : Str → Option Value} {dp un : Nat} {gd : Option (List Code)} {a9 : Addr} {ccd : Value} {A₀ : Around} {h₀ : Heap} {L : Addr} {s : Shared} {Q : Flow → Shared → Prop} {E : Value → Shared → Prop} {cs : Scope} {u : Str → Option Value} {tab : List (Addr × Obj)} {r : Addr} {d b un0 v1 v2 : Int} {t1 ta tb tc : Tok} {k : Nat} {st0 st1 : Stmt}
  (B : Below A₀ h₀ [] h₀) (F : Fr h₀ L s.heap (ub u [(Str.ofString "ring", .ref r), (Str.ofString "dress", .int d t1)])) (X : (hd.heap_39 w.params).In h₀) (N : News h₀ L s.heap ((r, listOf #[.int b ta, .int (b + v1 * un0) tb, .int (b + v2 * un0) tc] k) :: tab)) (T : Top p loose mean mg mb h₀) (hp : lawSeg 7 2 w.params = some ([st0, st1], cs))
  (hdp : dp + 100 < recursionLimit) (hu : un + 9000 < cLine) (hE : PassesOwn (model PySem.Challenge.rw_xi0006_01.row.prog w) (ktrTop dp un gd (Str.ofString "law") cs L a9 ccd [] []) (envX (Str.ofString "law") cs L a9 ccd []) E) (hC : CodeHd h₀ 51 47) (hT : Tab tab) (h47 : r ≠ 47) (hrt : ∀ p ∈ tab, p.1 ≠ r) (h2 : 0 ≤ d ∧ d < 24) (h3 : 1 ≤ un0 ∧ un0 ≤ 65536)
  {R : List (Nat × Nat × Nat)} (hR : R = rings 20 (0, v1, v2)) (hpl : ∀ z ∈ R, ∀ m ∈ [9, 10, 11, 12, 13, 32], ReplyOk m (z.1 * un0.toNat) (z.2.1 * un0.toNat) (z.2.2 * un0.toNat)) (hR1 : ∀ t ∈ R, t.1 ≤ 14 ∧ t.2.1 ≤ 14 ∧ t.2.2 ≤ 14) (hR2 : ∃ z, R.getLast? = some z ∧ fin3 z = true)
  (hret : ∀ (mk : Nat) (z : Nat × Nat × Nat) tab els (lv vs : List Value) fl wl ls k2 (t5 t6 t7 t8 t12 t13 : Tok) h' tk' m', mk ∈ [9, 10, 11, 12, 13, 32] → R.getLast? = some z → Tab tab → Paired (fun t x => ElAt els (sl un0 t) x) R lv → Paired BV ([apl (z.1 * un0.toNat), apl (z.2.1 * un0.toNat), octs (nt (z.2.2 * un0.toNat))].filter (· ≠ [])) vs →
    Fr h₀ L h' (ub m' [(Str.ofString "flags", .ref fl), (Str.ofString "words", .ref wl), (Str.ofString "far", .int (((z.2.2 * un0.toNat) : Nat) : Int) t5), (Str.ofString "mark", .str ⟨#[mk]⟩ t6), (Str.ofString "body", .str (bodyT mk (z.1 * un0.toNat) (z.2.1 * un0.toNat) (z.2.2 * un0.toNat)) t7), (Str.ofString "reply", .str (replyT mk (z.1 * un0.toNat) (z.2.1 * un0.toNat) (z.2.2 * un0.toNat)) t8), (Str.ofString "lists", .ref ls)]) → News h₀ L h' ((fl, ({ cls := .type "tuple", data := .seq vs.toArray } : Obj)) :: (ls, listOf lv.toArray k2) :: (wl, listOf #[.bytes (apl (z.1 * un0.toNat)).toArray t12, .bytes (apl (z.2.1 * un0.toNat)).toArray t13] 0) :: (tab ++ els)) → Q .next { s with heap := h', toks := tk' }) :
  wpAny (model PySem.Challenge.rw_xi0006_01.row.prog w) (ktrTop dp un gd (Str.ofString "law") cs L a9 ccd [] []) (execs [st0, st1] (envX (Str.ofString "law") cs L a9 ccd [])) Q E s := by
  refine' use_parts hp (y := ([?sta0, ?sta1], Scope.mk ?sc1 ?sc2 ?sc3 ?sc4 ?sc5)) ?e ?_
  case e => k_dflt (unfold lawSeg lawParts; rfl)
  intro e9
  cases e9
  k_with_none
  revert X; k_fill; intro X
  (k_with "exec For Name Call cons nil" => refine Stop.mk ?_)
  k_steps
  refine Stop.out ?_
  (with_reducible rename Fr _ _ _ _ => F0)
  (with_reducible rename News _ _ _ _ => N0)
  (with_reducible rename (_ < _ ∧ AllLt _ _) => lA)
  obtain ⟨lA1, lA2⟩ := lA
  have lA2 := ktn_ltOf lA2
  k_with_none
  (k_with "pyIter ref" => refine Stop.mk ?_)
  k_dflt (refine' For_invVF F0 ?k1 ?k2 ?_ (hE := hE); (case k1 => exact rfl); (case k2 => exact rfl))
  k_steps
  refine Stop.out ?_
  (with_reducible rename IsRange _ _ _ _ _ _ _ _ => hrg)
  (with_reducible rename Fr _ _ _ _ => F1)
  (with_reducible rename News _ _ _ _ => N1)
  have F2 := fr_ub F1 (l := [(Str.ofString "ring", .ref r), (Str.ofString "dress", .int d t1), (Str.ofString "lists", .ref _)]) (by (repeat' (first | exact lkup0 | refine lkupc ?_ ?_)) <;> rfl)
  have N2 := led_start (u := un0) N1
  k_dflt (refine' iter_rangeUnr (n := 20) rfl hrg (by decide) (by decide) F2 N2 ?_)
  intro I lI
  have hI47 : I ≠ 47 := lt47 hT (fun q hq => lI q (.tail _ (.tail _ (List.mem_append_left _ hq))))
  have hls47 := lt47 hT lA2
  have hlsI := lI _ (.tail _ (.head _))
  have hrI := lI _ (.head _)
  have hoI : ∀ q ∈ tab, I ≠ q.1 := ltne (fun q hq => lI q (.tail _ (.tail _ (List.mem_append_left _ hq))))
  k_dflt (refine' lc_loop (d := d) (t1 := t1) B X T ?hp9 hdp hu hC hpl h2 h3 hI47 hls47 hlsI hR1 hR2 ?hret 20 0 (0, v1, v2) [] b r tab [] [] _ ta tb tc k 0 rfl hR (fun _ h => nomatch h) rfl .nil hT ?ho ?h47 (fun _ h => nomatch h) (fun _ h => nomatch h) (Nat.ne_of_lt hrI))
  case hp9 => k_dflt (unfold lawForSeg lawFor lawParts; rfl)
  case hret =>
    intro mk z tab els lv vs fl wl k2 t5 t6 t7 t8 t12 t13 h' tk' m' a1 a2 a3 a4 a5 a6 a7
    refine wpAny_execs_nil ?_
    exact hret mk z tab els lv vs fl wl _ k2 t5 t6 t7 t8 t12 t13 h' tk' m' a1 a2 a3 a4 a5 a6 a7
  case ho => exact off2_cons (fun q hq => (hrt q hq).symm) (off2_cons (ltne lA2) (off2_cons hoI (fun _ _ _ h => nomatch h)))
  case h47 => exact List.forall_mem_cons.mpr ⟨h47, fun _ h => nomatch h⟩
end Mine
end
theorem Mine.walk_off_LD1 : True := by
  w_top off
  exact True.intro
section
open PySem PySem.W PyProof.Rows
set_option Elab.async false
set_option maxRecDepth 100000
set_option maxHeartbeats 8000000
namespace Mine
/-- what ParseFlags tells of a line -/
noncomputable def FlagsOk (x : List UInt8) (g : List (List UInt8)) : Prop := ∃ o, Found (x.toArray.map (·.toNat)) o ∧ (∀ a q, o = some (a, q) → (x.toArray.extract (a + 7) q).any Builtin.Bytes.isSpace = true) ∧ grp x o = g ∧ 8 ≤ x.length ∧ x.length < 1000 ∧ (∀ y ∈ g, y.length ≤ 1000) ∧ g.length ≤ 5
theorem c_fl2 {w : World} {p : Program} {loose : List Str} {mean : ExcName → Option Value} {mg mb : Str → Option Value}
  {dp un : Nat} {gd : Option (List Code)} {cn : Str} {cs : Scope} {a : Addr} {ccd : Value} {cl : List (Str × Addr)} {outer : List Env} {A₀ : Around} {base h₀ : Heap} {L : Addr} {m : Str → Option Value} {news : List (Addr × Obj)} {s : Shared} {Q E : Value → Shared → Prop}
  (B : Below A₀ base outer h₀) (F : Fr h₀ L s.heap m) (X : (hd.heap_39 w.params).In h₀) (N : News h₀ L s.heap news) (T : Top p loose mean mg mb h₀) (hk : cs.kind = .function)
  (hdp : dp + 20 < recursionLimit) (hu : un + 2000 < cLine)
  {x : List UInt8} {t1 : Tok} {g : List (List UInt8)} (hf : FlagsOk x g)
  (hret : ∀ vs D h' tk', Paired BV g vs → vs.length ≤ 5 → Fr h₀ L h' m → News h₀ L h' ((D, ({ cls := .type "tuple", data := .seq vs.toArray } : Obj)) :: news) → (∀ p ∈ news, p.1 < D) → Q (.ref D) { s with heap := h', toks := tk' }) :
  wpAny (model PySem.Challenge.rw_xi0006_01.row.prog w) (ktrTop dp un gd cn cs L a ccd cl outer) (call (.ref 115) [.bytes x.toArray t1]) Q E s := by
  obtain ⟨o, a1, a2, a3, a4, a5, a6, a7⟩ := hf
  subst a3
  refine c_flags B F X N T hk hdp hu (by omega) a4 a1 a2 (fun y hy => Nat.le_trans (a6 y hy) (by decide)) (Nat.le_trans a7 (by decide)) ?_
  intro vs D h' tk' P F' N' l'
  exact hret vs D h' tk' P (by rw [paired_len P]; exact a7) F' N' l'
theorem law_d1 {w : World} {p : Program} {loose : List Str} {mean : ExcName → Option Value} {mg mb : Str → Option Value} {dp un : Nat} {gd : Option (List Code)} {a : Addr} {ccd : Value} {A₀ : Around} {h₀ : Heap} {L : Addr} {s : Shared} {Q : Flow → Shared → Prop} {E : Value → Shared → Prop} {cs : Scope} {u : Str → Option Value} {news : List (Addr × Obj)} {fl wl ls : Addr} {mk d2 : Nat} {bd9 rp : Str} {vs : List Value} {g : List (List UInt8)} {t5 t6 t7 t8 : Tok} {st0 : Stmt}
  (B : Below A₀ h₀ [] h₀) (F : Fr h₀ L s.heap (ub u [(Str.ofString "flags", .ref fl), (Str.ofString "words", .ref wl), (Str.ofString "far", .int ((d2 : Nat) : Int) t5), (Str.ofString "mark", .str ⟨#[mk]⟩ t6), (Str.ofString "body", .str bd9 t7), (Str.ofString "reply", .str rp t8), (Str.ofString "lists", .ref ls)])) (X : (hd.heap_39 w.params).In h₀) (N : News h₀ L s.heap ((fl, ({ cls := .type "tuple", data := .seq vs.toArray } : Obj)) :: news)) (T : Top p loose mean mg mb h₀) (hp : lawSeg 9 1 w.params = some ([st0], cs))
  (hdp : dp + 100 < recursionLimit) (hu : un + 9000 < cLine) (P : Paired BV g vs) (ho1 : ∀ c ∈ rp.cps.toList, c < 256) (ho2 : rp.cps.size < 900) (hA : FlagsOk ([70, 76, 65, 71, 83, 32, 40, 66, 41, 32] ++ octs rp) g) (hB : FlagsOk ([10] ++ octs rp) [])
  (hret : ∀ h' tk' m', Fr h₀ L h' (ub m' [(Str.ofString "flags", .ref fl), (Str.ofString "words", .ref wl), (Str.ofString "far", .int ((d2 : Nat) : Int) t5), (Str.ofString "mark", .str ⟨#[mk]⟩ t6), (Str.ofString "body", .str bd9 t7), (Str.ofString "reply", .str rp t8), (Str.ofString "lists", .ref ls)]) → News h₀ L h' ((fl, ({ cls := .type "tuple", data := .seq vs.toArray } : Obj)) :: news) → Q .next { s with heap := h', toks := tk' }) :
  wpAny (model PySem.Challenge.rw_xi0006_01.row.prog w) (ktrTop dp un gd (Str.ofString "law") cs L a ccd [] []) (execs [st0] (envX (Str.ofString "law") cs L a ccd [])) Q E s := by
  refine' use_parts hp (y := ([?sta0], Scope.mk ?sc1 ?sc2 ?sc3 ?sc4 ?sc5)) ?e ?_
  case e => k_dflt (unfold lawSeg lawParts; rfl)
  intro e9
  cases e9
  k_with_none
  revert X; k_fill; intro X
  (k_with "call ref" => ((with_reducible show wpAny _ _ (call (Value.ref 127) _) _ _ _); k_dflt (refine' c_oct2 ?k1 ?k2 ?k3 ?k4 ?k5 ?kK ?kd ?ku ?q0 ?q1 ?_; (case k1 => k_asm); (case k2 => k_asm); (case k3 => k_asm); (case k4 => k_asm); (case k5 => k_asm); (case kK => rfl); (case kd => ktr_room); (case ku => ktr_units); (case q0 => exact ho1); (case q1 => omega); (intro t9 h9 tk9 F9 N9); (try dsimp only))))
  (k_with "call ref" => ((with_reducible show wpAny _ _ (call (Value.ref 115) _) _ _ _); k_dflt (refine' c_fl2 ?k1 ?k2 ?k3 ?k4 ?k5 ?kK ?kd ?ku ?q0 ?_; (case k1 => k_asm); (case k2 => k_asm); (case k3 => k_asm); (case k4 => k_asm); (case k5 => k_asm); (case kK => rfl); (case kd => ktr_room); (case ku => ktr_units); (case q0 => first | exact hA | exact hB); (intro vs9 D9 h9 tk9 P9 v9 F9 N9 l9; (try k_lt l9)); (try dsimp only))))
  (k_with "binaryOp Add bytes bytes" => k_dflt (refine badd (y := octs rp) ?hz ?_; (case hz => (simp only [List.length_cons, List.length_nil, octs_len]; omega)); intro t9 k9; (try dsimp only)))
  (k_with "compareOp NotEq ref ref" => ((with_reducible rename News _ _ _ _ => N9); (with_reducible rename Paired BV _ _ => P7); k_dflt (refine' ne_tups (us := []) (ys := []) N9 ?ya ?yb P7 .nil ?yd rfl ?_; (case ya => k_mem); (case yb => k_mem); (case yd => ktr_units))))
  (k_with "compareOp NotEq ref ref" => ((with_reducible show wpAny _ _ (compareOp _ (Value.ref _) (Value.ref fl)) _ _ _); (with_reducible rename News _ _ _ _ => N9); (with_reducible rename Paired BV _ _ => P7); k_dflt (refine' ne_tups N9 ?ya ?yb P7 P ?yd rfl ?_; (case ya => k_mem); (case yb => k_mem); (case yd => ktr_units))))
  k_steps
  k_dflt (refine' hret _ _ _ ?zF ?zN; (case zF => (refine fr_ub (by with_reducible assumption) ?_; (repeat' (first | exact lkup0 | refine lkupc ?_ ?_)) <;> rfl)); (case zN => (refine news_sub (by with_reducible assumption) ?_; (repeat' (first | with_reducible_and_instances apply sub_refl | refine sub_cons (by with_reducible_and_instances k_mem) ?_ | refine sub_skip ?_)))))
end Mine
end
theorem Mine.walk_off_LD2 : True := by
  w_top off
  exact True.intro
section
open PySem PySem.W PyProof.Rows
set_option Elab.async false
set_option maxRecDepth 100000
set_option maxHeartbeats 8000000
namespace Mine
theorem litLD2_0 : (Str.ofString "229 :) FLAGS (").length = 14 := by decide +kernel
theorem litLD2_1 : (Str.ofString ") :) FLAGS (B").length = 13 := by decide +kernel
theorem litLD2_2 : (Str.ofString "B").length = 1 := by decide +kernel
noncomputable def moreT (m : Nat) (b : Str) : Str := Str.ofString "229 :) FLAGS (" ++ ⟨#[m]⟩ ++ b ++ Str.ofString ") :) FLAGS (B"
noncomputable def lessT (b : Str) : Str := Str.ofString "229 :) FLAGS (" ++ b ++ Str.ofString "B"
theorem law_d2 {w : World} {p : Program} {loose : List Str} {mean : ExcName → Option Value} {mg mb : Str → Option Value} {dp un : Nat} {gd : Option (List Code)} {a : Addr} {ccd : Value} {A₀ : Around} {h₀ : Heap} {L : Addr} {s : Shared} {Q : Flow → Shared → Prop} {E : Value → Shared → Prop} {cs : Scope} {u : Str → Option Value} {news : List (Addr × Obj)} {fl wl ls : Addr} {mk d2 : Nat} {bd9 rp : Str} {t5 t6 t7 t8 : Tok} {st0 st1 : Stmt}
  (B : Below A₀ h₀ [] h₀) (F : Fr h₀ L s.heap (ub u [(Str.ofString "flags", .ref fl), (Str.ofString "words", .ref wl), (Str.ofString "far", .int ((d2 : Nat) : Int) t5), (Str.ofString "mark", .str ⟨#[mk]⟩ t6), (Str.ofString "body", .str bd9 t7), (Str.ofString "reply", .str rp t8), (Str.ofString "lists", .ref ls)])) (X : (hd.heap_39 w.params).In h₀) (N : News h₀ L s.heap (news)) (T : Top p loose mean mg mb h₀) (hp : lawSeg 10 2 w.params = some ([st0, st1], cs))
  (hdp : dp + 100 < recursionLimit) (hu : un + 9000 < cLine) (hb : bd9.length ≤ 200)
  (hret : ∀ (t10 t11 : Tok) h' tk' m', Fr h₀ L h' (ub m' [(Str.ofString "more", .str (moreT mk bd9) t10), (Str.ofString "less", .str (lessT bd9) t11), (Str.ofString "flags", .ref fl), (Str.ofString "words", .ref wl), (Str.ofString "far", .int ((d2 : Nat) : Int) t5), (Str.ofString "mark", .str ⟨#[mk]⟩ t6), (Str.ofString "body", .str bd9 t7), (Str.ofString "reply", .str rp t8), (Str.ofString "lists", .ref ls)]) → News h₀ L h' news → Q .next { s with heap := h', toks := tk' }) :
  wpAny (model PySem.Challenge.rw_xi0006_01.row.prog w) (ktrTop dp un gd (Str.ofString "law") cs L a ccd [] []) (execs [st0, st1] (envX (Str.ofString "law") cs L a ccd [])) Q E s := by
  refine' use_parts hp (y := ([?sta0, ?sta1], Scope.mk ?sc1 ?sc2 ?sc3 ?sc4 ?sc5)) ?e ?_
  case e => k_dflt (unfold lawSeg lawParts; rfl)
  intro e9
  cases e9
  k_with_none
  revert X; k_fill; intro X
  (k_with "binaryOp Add str str" => k_dflt (refine add_str ?_ ?hsz; (case hsz => (simp only [PySem.Str.length_append, len_one, litLD2_0, litLD2_1, litLD2_2]; rw [sizeLine_eq]; omega)); intro t9 k9; (try dsimp only)))
  k_steps
  k_dflt (refine' hret _ _ _ _ _ ?zF ?zN; (case zF => (refine fr_ub (by with_reducible assumption) ?_; (repeat' (first | exact lkup0 | refine lkupc ?_ ?_)) <;> rfl)); (case zN => (refine news_sub (by with_reducible assumption) ?_; (repeat' (first | with_reducible_and_instances apply sub_refl | refine sub_cons (by with_reducible_and_instances k_mem) ?_ | refine sub_skip ?_)))))
end Mine
end
theorem Mine.walk_off_LD3 : True := by
  w_top off
  exact True.intro
section
open PySem PySem.W PyProof.Rows
set_option Elab.async false
set_option maxRecDepth 100000
set_option maxHeartbeats 8000000
namespace Mine
theorem law_d3 {w : World} {p : Program} {loose : List Str} {mean : ExcName → Option Value} {mg mb : Str → Option Value} {dp un : Nat} {gd : Option (List Code)} {a : Addr} {ccd : Value} {A₀ : Around} {h₀ : Heap} {L : Addr} {s : Shared} {Q : Flow → Shared → Prop} {E : Value → Shared → Prop} {cs : Scope} {u : Str → Option Value} {news : List (Addr × Obj)} {fl wl ls du : Addr} {mk d2 : Nat} {bd9 rp sp : Str} {us : List Value} {g : List (List UInt8)} {t5 t6 t7 t8 t9 : Tok} {st0 : Stmt}
  (B : Below A₀ h₀ [] h₀) (F : Fr h₀ L s.heap (ub u [(Str.ofString "spoilt", .str sp t9), (Str.ofString "due", .ref du), (Str.ofString "flags", .ref fl), (Str.ofString "words", .ref wl), (Str.ofString "far", .int ((d2 : Nat) : Int) t5), (Str.ofString "mark", .str ⟨#[mk]⟩ t6), (Str.ofString "body", .str bd9 t7), (Str.ofString "reply", .str rp t8), (Str.ofString "lists", .ref ls)])) (X : (hd.heap_39 w.params).In h₀) (N : News h₀ L s.heap (news)) (T : Top p loose mean mg mb h₀) (hp : lawForSeg 12 0 1 w.params = some ([st0], cs))
  (hdp : dp + 100 < recursionLimit) (hu : un + 9000 < cLine) (hdu : (du, ({ cls := .type "tuple", data := .seq us.toArray } : Obj)) ∈ news) (P : Paired BV g us) (ho1 : ∀ c ∈ sp.cps.toList, c < 256) (ho2 : sp.cps.size < 900) (hA : FlagsOk (octs sp) g) (hrd : r229 sp = some .proto)
  (hret : ∀ h' tk' m', Fr h₀ L h' (ub m' [(Str.ofString "flags", .ref fl), (Str.ofString "words", .ref wl), (Str.ofString "far", .int ((d2 : Nat) : Int) t5), (Str.ofString "mark", .str ⟨#[mk]⟩ t6), (Str.ofString "body", .str bd9 t7), (Str.ofString "reply", .str rp t8), (Str.ofString "lists", .ref ls)]) → News h₀ L h' news → Q .next { s with heap := h', toks := tk' }) :
  wpAny (model PySem.Challenge.rw_xi0006_01.row.prog w) (ktrTop dp un gd (Str.ofString "law") cs L a ccd [] []) (execs [st0] (envX (Str.ofString "law") cs L a ccd [])) Q E s := by
  refine' use_parts hp (y := ([?sta0], Scope.mk ?sc1 ?sc2 ?sc3 ?sc4 ?sc5)) ?e ?_
  case e => k_dflt (unfold lawForSeg lawFor lawParts; rfl)
  intro e9
  cases e9
  k_with_none
  revert X; k_fill; intro X
  (k_with "call ref" => ((with_reducible show wpAny _ _ (call (Value.ref 127) _) _ _ _); k_dflt (refine' c_oct2 ?k1 ?k2 ?k3 ?k4 ?k5 ?kK ?kd ?ku ?q0 ?q1 ?_; (case k1 => k_asm); (case k2 => k_asm); (case k3 => k_asm); (case k4 => k_asm); (case k5 => k_asm); (case kK => rfl); (case kd => ktr_room); (case ku => ktr_units); (case q0 => exact ho1); (case q1 => omega); (intro t9 h9 tk9 F9 N9); (try dsimp only))))
  (k_with "call ref" => ((with_reducible show wpAny _ _ (call (Value.ref 115) _) _ _ _); k_dflt (refine' c_fl2 ?k1 ?k2 ?k3 ?k4 ?k5 ?kK ?kd ?ku ?q0 ?_; (case k1 => k_asm); (case k2 => k_asm); (case k3 => k_asm); (case k4 => k_asm); (case k5 => k_asm); (case kK => rfl); (case kd => ktr_room); (case ku => ktr_units); (case q0 => exact hA); (intro vs9 D9 h9 tk9 P9 v9 F9 N9 l9; (try k_lt l9)); (try dsimp only))))
  (k_with "call ref" => ((with_reducible show wpAny _ _ (call (Value.ref 144) _) _ _ _); k_dflt (refine' c_read ?k1 ?k2 ?k3 ?k4 ?k5 ?kK ?kd ?ku ?q0 ?q1 ?q2 ?_; (case k1 => k_asm); (case k2 => k_asm); (case k3 => k_asm); (case k4 => k_asm); (case k5 => k_asm); (case kK => rfl); (case kd => ktr_room); (case ku => ktr_units); (case q0 => k_mem); (case q1 => (show sp.cps.size ≤ 1000; omega)); (case q2 => exact hrd); (intro tl t12 h9 tk9 F9 N9 ltl; (try dsimp only [outObj] at N9); (k_lt ltl)); (try dsimp only))))
  (k_with "compareOp NotEq ref ref" => ((with_reducible rename News _ _ _ _ => N9); k_dflt (first | (refine' ne_listsG N9 ?ya ?yb ?yc ?yd ?_; (case ya => k_mem); (case yb => k_mem); (case yc => (repeat' first | exact .nil | refine .cons ?_ ?_ | exact alike_str | exact alike_int | exact alike_bytes)); (case yd => ktr_units)) | ((with_reducible rename Paired BV _ _ => P7); refine' ne_tups N9 ?ya ?yb P7 P ?yd rfl ?_; (case ya => k_mem); (case yb => (first | exact hdu | exact .tail _ (hdu) | exact .tail _ (.tail _ (hdu)) | exact .tail _ (.tail _ (.tail _ (hdu))) | exact .tail _ (.tail _ (.tail _ (.tail _ (hdu)))) | exact .tail _ (.tail _ (.tail _ (.tail _ (.tail _ (hdu))))) | exact .tail _ (.tail _ (.tail _ (.tail _ (.tail _ (.tail _ (hdu)))))) | exact .tail _ (.tail _ (.tail _ (.tail _ (.tail _ (.tail _ (.tail _ (hdu))))))) | exact .tail _ (.tail _ (.tail _ (.tail _ (.tail _ (.tail _ (.tail _ (.tail _ (hdu)))))))) | exact .tail _ (.tail _ (.tail _ (.tail _ (.tail _ (.tail _ (.tail _ (.tail _ (.tail _ (hdu))))))))))); (case yd => ktr_units)))))
  k_steps
  k_dflt (refine' hret _ _ _ ?zF ?zN; (case zF => (refine fr_ub (by with_reducible assumption) ?_; (repeat' (first | exact lkup0 | refine lkupc ?_ ?_)) <;> rfl)); (case zN => (refine news_sub (by with_reducible assumption) ?_; (repeat' (first | with_reducible_and_instances apply sub_refl | refine sub_cons (by with_reducible_and_instances k_mem) ?_ | refine sub_skip ?_)))))
end Mine
end
theorem Mine.walk_off_LD4 : True := by
  w_top off
  exact True.intro
section
open PySem PySem.W PyProof.Rows
set_option Elab.async false
set_option maxRecDepth 100000
set_option maxHeartbeats 8000000
namespace Mine
theorem litLD4_0 : (Str.ofString ")").length = 1 := by decide +kernel
theorem tadd {prog : Program} {w : World} {A : Around} {E : Value → Shared → Prop} {s : Shared} {h₀ : Heap} {L : Addr} {m : Str → Option Value} {news : List (Addr × Obj)} {t b : Addr} {vs ws : List Value} {Q : Value → Shared → Prop} (F : Fr h₀ L s.heap m) (N : News h₀ L s.heap news) (ht : (t, ({ cls := .type "tuple", data := .seq vs.toArray } : Obj)) ∈ news) (hb : (b, ({ cls := .type "tuple", data := .seq ws.toArray } : Obj)) ∈ news) (hv : vs ≠ []) (hw : ws ≠ []) (hz : vs.length + ws.length ≤ 1000)
    (h : ∀ D h', Fr h₀ L h' m → News h₀ L h' ((D, ({ cls := .type "tuple", data := .seq (vs ++ ws).toArray } : Obj)) :: news) → (∀ p ∈ news, p.1 < D) → Q (.ref D) { s with heap := h' }) :
    wpAny (model prog w) A (binaryOp .Add (.ref t) (.ref b)) Q E s :=
  add_tuples F N ⟨_, (N _ ht).1, rfl, _, rfl⟩ ⟨_, (N _ hb).1, rfl, _, rfl⟩ (fun e => absurd e hv) (fun _ e => absurd e hw) (fun _ _ h' F' N' => h _ h' F' N' (fun p hp => Heap.lt_size (N p hp).1)) (by rw [sizeLine_eq]; omega)
theorem ld_step {w : World} {p : Program} {loose : List Str} {mean : ExcName → Option Value} {mg mb : Str → Option Value} {dp un : Nat} {gd : Option (List Code)} {a : Addr} {ccd : Value} {A₀ : Around} {h₀ : Heap} {L : Addr} {s : Shared} {Q : Flow → Shared → Prop} {E : Value → Shared → Prop} {cs : Scope} {u : Str → Option Value} {news : List (Addr × Obj)} {fl wl ls T0 du ax I : Addr} {mk d2 : Nat} {bd9 rp sp : Str} {us : List Value} {g : List (List UInt8)} {t5 t6 t7 t8 t10 t11 : Tok} {lo : Obj} {p1 p2 p3 : Pos} {rest : List Itm} {st0 : Stmt}
  (B : Below A₀ h₀ [] h₀) (X : (hd.heap_39 w.params).In h₀) (T : Top p loose mean mg mb h₀) (hp : lawForSeg 12 0 1 w.params = some ([st0], cs))
  (hdp : dp + 100 < recursionLimit) (hu : un + 9000 < cLine) (hT : (T0, ({ cls := .type "tuple", data := .seq #[.str sp t10, .ref du] } : Obj)) ∈ news) (hdu : (du, ({ cls := .type "tuple", data := .seq us.toArray } : Obj)) ∈ news) (hax : (ax, lo) ∈ news) (hI : ∀ p ∈ news, p.1 ≠ I) (P : Paired BV g us) (ho1 : ∀ c ∈ sp.cps.toList, c < 256) (ho2 : sp.cps.size < 900) (hA : FlagsOk (octs sp) g) (hrd : r229 sp = some .proto)
  (hnext : ∀ m', ItemsRest PySem.Challenge.rw_xi0006_01.row.prog w (ktrTop dp un gd (Str.ofString "law") cs L a ccd [] []) E h₀ (envX (Str.ofString "law") cs L a ccd []) (.Tuple [.Name (Str.ofString "spoilt") p1, .Name (Str.ofString "due") p2] 0 p3) [st0] Q s [(I, "list_iterator")] [(ax, lo)] rest (ub m' [(Str.ofString "flags", .ref fl), (Str.ofString "words", .ref wl), (Str.ofString "far", .int ((d2 : Nat) : Int) t5), (Str.ofString "mark", .str ⟨#[mk]⟩ t6), (Str.ofString "body", .str bd9 t7), (Str.ofString "reply", .str rp t8), (Str.ofString "lists", .ref ls)]) news) : ItemsRest PySem.Challenge.rw_xi0006_01.row.prog w (ktrTop dp un gd (Str.ofString "law") cs L a ccd [] []) E h₀ (envX (Str.ofString "law") cs L a ccd []) (.Tuple [.Name (Str.ofString "spoilt") p1, .Name (Str.ofString "due") p2] 0 p3) [st0] Q s [(I, "list_iterator")] [(ax, lo)] (.val (.ref T0) :: rest) (ub u [(Str.ofString "flags", .ref fl), (Str.ofString "words", .ref wl), (Str.ofString "far", .int ((d2 : Nat) : Int) t5), (Str.ofString "mark", .str ⟨#[mk]⟩ t6), (Str.ofString "body", .str bd9 t7), (Str.ofString "reply", .str rp t8), (Str.ofString "lists", .ref ls)]) news := by
  refine ItemsRest.val ?_
  intro h tk F1
  simp only [AllObj]
  intro o9 ho9 N1
  rw [List.singleton_append] at N1
  have hTup : IsTup h T0 #[.str sp t10, .ref du] := ⟨_, (N1 _ (.tail _ hT)).1, rfl, _, rfl⟩
  have hp' := hp
  refine' use_parts hp' (y := ([?sta0], Scope.mk ?sc1 ?sc2 ?sc3 ?sc4 ?sc5)) ?e ?_
  case e => k_dflt (unfold lawForSeg lawFor lawParts; rfl)
  intro e9
  cases e9
  k_with_none
  revert X; k_fill; intro X
  (k_with "execs cons If nil" => refine Stop.mk ?_)
  (k_with "execs cons If" => refine Stop.mk ?_)
  (k_with "execs cons" => refine Stop.mk ?_)
  k_steps
  refine Stop.out ?_
  (with_reducible rename Fr _ _ _ _ => F2)
  (with_reducible rename News _ _ _ _ => N2)
  have F3 := fr_ub F2 (l := [(Str.ofString "spoilt", .str sp t10), (Str.ofString "due", .ref du), (Str.ofString "flags", .ref fl), (Str.ofString "words", .ref wl), (Str.ofString "far", .int ((d2 : Nat) : Int) t5), (Str.ofString "mark", .str ⟨#[mk]⟩ t6), (Str.ofString "body", .str bd9 t7), (Str.ofString "reply", .str rp t8), (Str.ofString "lists", .ref ls)]) (by (repeat' (first | exact lkup0 | refine lkupc ?_ ?_)) <;> rfl)
  k_dflt (refine' law_d3 B F3 X N2 T hp hdp hu (.tail _ hdu) P ho1 ho2 hA hrd ?_)
  intro h' tk' m' F4 N4
  refine ⟨h', _, _, news, rfl, F4, N4, fun p hp q hq => ?_, ⟨hax, trivial⟩, hnext m'⟩
  rw [List.mem_singleton.mp hq]
  exact hI p hp
noncomputable def SpOk (sp : Str) (g : List (List UInt8)) : Prop := (∀ c ∈ sp.cps.toList, c < 256) ∧ sp.cps.size < 900 ∧ FlagsOk (octs sp) g ∧ r229 sp = some .proto
theorem law_d4 {w : World} {p : Program} {loose : List Str} {mean : ExcName → Option Value} {mg mb : Str → Option Value} {dp un : Nat} {gd : Option (List Code)} {a : Addr} {ccd : Value} {A₀ : Around} {h₀ : Heap} {L : Addr} {s : Shared} {Q : Flow → Shared → Prop} {E : Value → Shared → Prop} {cs : Scope} {u : Str → Option Value} {news : List (Addr × Obj)} {fl wl ls : Addr} {mk d2 : Nat} {bd9 rp mt lt : Str} {vs : List Value} {g : List (List UInt8)} {t5 t6 t7 t8 t10 t11 : Tok} {st0 : Stmt}
  (B : Below A₀ h₀ [] h₀) (F : Fr h₀ L s.heap (ub u [(Str.ofString "more", .str mt t10), (Str.ofString "less", .str lt t11), (Str.ofString "flags", .ref fl), (Str.ofString "words", .ref wl), (Str.ofString "far", .int ((d2 : Nat) : Int) t5), (Str.ofString "mark", .str ⟨#[mk]⟩ t6), (Str.ofString "body", .str bd9 t7), (Str.ofString "reply", .str rp t8), (Str.ofString "lists", .ref ls)])) (X : (hd.heap_39 w.params).In h₀) (N : News h₀ L s.heap ((fl, ({ cls := .type "tuple", data := .seq vs.toArray } : Obj)) :: news)) (T : Top p loose mean mg mb h₀) (hp : lawSeg 12 1 w.params = some ([st0], cs))
  (hdp : dp + 100 < recursionLimit) (hu : un + 9000 < cLine) (hE : PassesOwn (model PySem.Challenge.rw_xi0006_01.row.prog w) (ktrTop dp un gd (Str.ofString "law") cs L a ccd [] []) (envX (Str.ofString "law") cs L a ccd []) E) (P : Paired BV g vs) (hvn : vs ≠ []) (hvs : vs.length ≤ 5) (hlt : lt.length ≤ 300) (s1 : SpOk mt g) (s2 : SpOk lt []) (s3 : SpOk (lt ++ Str.ofString ")") (g ++ [[66]]))
  (hret : ∀ h' tk' m', Fr h₀ L h' (ub m' [(Str.ofString "flags", .ref fl), (Str.ofString "words", .ref wl), (Str.ofString "far", .int ((d2 : Nat) : Int) t5), (Str.ofString "mark", .str ⟨#[mk]⟩ t6), (Str.ofString "body", .str bd9 t7), (Str.ofString "reply", .str rp t8), (Str.ofString "lists", .ref ls)]) → News h₀ L h' ((fl, ({ cls := .type "tuple", data := .seq vs.toArray } : Obj)) :: news) → Q .next { s with heap := h', toks := tk' }) :
  wpAny (model PySem.Challenge.rw_xi0006_01.row.prog w) (ktrTop dp un gd (Str.ofString "law") cs L a ccd [] []) (execs [st0] (envX (Str.ofString "law") cs L a ccd [])) Q E s := by
  refine' use_parts hp (y := ([?sta0], Scope.mk ?sc1 ?sc2 ?sc3 ?sc4 ?sc5)) ?e ?_
  case e => k_dflt (unfold lawSeg lawParts; rfl)
  intro e9
  cases e9
  k_with_none
  revert X; k_fill; intro X
  (k_with "binaryOp Add str str" => k_dflt (refine add_str ?_ ?hsz; (case hsz => (simp only [PySem.Str.length_append, len_one, litLD4_0]; rw [sizeLine_eq]; omega)); intro t9 k9; (try dsimp only)))
  refine wpAny_execs_cons ?_
  k_dflt (refine' For_turns F ?_ (hE := hE))
  (k_with "binaryOp Add ref ref" => ((with_reducible rename Fr _ _ _ _ => F9); (with_reducible rename News _ _ _ _ => N9); k_dflt (refine tadd F9 N9 (by k_mem) (by k_mem) hvn (by simp) (by simp; omega) ?_; intro D9 h9 F9 N9 l9; (try k_lt l9); (try dsimp only))))
  (k_with "pyIter ref" => refine Stop.mk ?_)
  k_steps
  refine Stop.out ?_
  (with_reducible rename Fr _ _ _ _ => F1)
  (with_reducible rename News _ _ _ _ => N1)
  have F2 := fr_ub F1 (l := [(Str.ofString "flags", .ref fl), (Str.ofString "words", .ref wl), (Str.ofString "far", .int ((d2 : Nat) : Int) t5), (Str.ofString "mark", .str ⟨#[mk]⟩ t6), (Str.ofString "body", .str bd9 t7), (Str.ofString "reply", .str rp t8), (Str.ofString "lists", .ref ls)]) (by (repeat' (first | exact lkup0 | refine lkupc ?_ ?_)) <;> rfl)
  k_dflt (refine' iter_listTurns rfl F2 N1 (.head _) rfl rfl ?_)
  intro I lI
  have hI := fun p hp => Nat.ne_of_lt (lI p hp)
  simp only [List.map_cons, List.map_nil]
  k_dflt (refine' ld_step (t11 := 0) B X T ?hp1 hdp hu ?hT1 ?hdu1 (.head _) hI P s1.1 s1.2.1 s1.2.2.1 s1.2.2.2 ?_; (case hp1 => k_dflt (unfold lawForSeg lawFor lawParts; rfl)); (case hT1 => k_mem); (case hdu1 => k_mem))
  intro m1
  k_dflt (refine' ld_step (t11 := 0) (us := []) (g := []) B X T ?hp2 hdp hu ?hT2 ?hdu2 (.head _) hI .nil s2.1 s2.2.1 s2.2.2.1 s2.2.2.2 ?_; (case hp2 => k_dflt (unfold lawForSeg lawFor lawParts; rfl)); (case hT2 => k_mem); (case hdu2 => k_mem))
  intro m2
  k_dflt (refine' ld_step (t11 := 0) B X T ?hp3 hdp hu ?hT3 ?hdu3 (.head _) hI (Paired.snoc P ⟨_, rfl⟩) s3.1 s3.2.1 s3.2.2.1 s3.2.2.2 ?_; (case hp3 => k_dflt (unfold lawForSeg lawFor lawParts; rfl)); (case hT3 => k_mem); (case hdu3 => k_mem))
  intro m3
  refine ItemsRest.zero ?_
  intro h9 tk9 F9 N9
  refine wpAny_execs_nil ?_
  exact hret h9 tk9 m3 F9 (news_sub N9 (by (repeat' (first | with_reducible_and_instances apply sub_refl | refine sub_cons (by with_reducible_and_instances k_mem) ?_ | refine sub_skip ?_))))
end Mine
end
theorem Mine.walk_off_LD5 : True := by
  w_top off
  exact True.intro
section
open PySem PySem.W PyProof.Rows
set_option Elab.async false
set_option maxRecDepth 100000
set_option maxHeartbeats 8000000
namespace Mine
theorem litLD5_0 : (Str.ofString "229 :) FLAGS (").length = 14 := by decide +kernel
theorem litLD5_1 : (Str.ofString ")").length = 1 := by decide +kernel
theorem litLD5_2 : (Str.ofString "229 212)").length = 8 := by decide +kernel
noncomputable def fewT (m : Nat) (w1 : List UInt8) (d2 : Nat) : Str := Str.ofString "229 :) FLAGS (" ++ ⟨#[m]⟩ ++ txt w1 ++ ⟨#[m]⟩ ++ nt d2 ++ ⟨#[m]⟩ ++ Str.ofString ")"
theorem law_d5 {w : World} {p : Program} {loose : List Str} {mean : ExcName → Option Value} {mg mb : Str → Option Value} {dp un : Nat} {gd : Option (List Code)} {a : Addr} {ccd : Value} {A₀ : Around} {h₀ : Heap} {L : Addr} {s : Shared} {Q : Flow → Shared → Prop} {E : Value → Shared → Prop} {cs : Scope} {u : Str → Option Value} {news : List (Addr × Obj)} {wl ls : Addr} {mk d2 : Nat} {rp : Str} {w0 w1 : List UInt8} {t5 t6 t8 t12 t13 : Tok} {st0 : Stmt}
  (B : Below A₀ h₀ [] h₀) (F : Fr h₀ L s.heap (ub u [(Str.ofString "words", .ref wl), (Str.ofString "far", .int ((d2 : Nat) : Int) t5), (Str.ofString "mark", .str ⟨#[mk]⟩ t6), (Str.ofString "reply", .str rp t8), (Str.ofString "lists", .ref ls)])) (X : (hd.heap_39 w.params).In h₀) (N : News h₀ L s.heap ((wl, listOf #[.bytes w0.toArray t12, .bytes w1.toArray t13] 0) :: news)) (T : Top p loose mean mg mb h₀) (hp : lawSeg 13 1 w.params = some ([st0], cs))
  (hdp : dp + 100 < recursionLimit) (hu : un + 9000 < cLine) (hw1 : w1.length ≤ 28) (hd2 : d2 < 2 ^ 110)
  (hret : ∀ (t9 : Tok) h' tk' m', (fewT mk w1 d2).length ≤ 200 → Fr h₀ L h' (ub m' [(Str.ofString "few", .str (fewT mk w1 d2) t9), (Str.ofString "mark", .str ⟨#[mk]⟩ t6), (Str.ofString "reply", .str rp t8), (Str.ofString "lists", .ref ls)]) → News h₀ L h' news → Q .next { s with heap := h', toks := tk' }) :
  wpAny (model PySem.Challenge.rw_xi0006_01.row.prog w) (ktrTop dp un gd (Str.ofString "law") cs L a ccd [] []) (execs [st0] (envX (Str.ofString "law") cs L a ccd [])) Q E s := by
  refine' use_parts hp (y := ([?sta0], Scope.mk ?sc1 ?sc2 ?sc3 ?sc4 ?sc5)) ?e ?_
  case e => k_dflt (unfold lawSeg lawParts; rfl)
  intro e9
  cases e9
  k_with_none
  revert X; k_fill; intro X
  (k_with "binaryOp Add str str" => k_dflt (refine add_str ?_ ?hsz; (case hsz => (simp only [PySem.Str.length_append, len_one, litLD5_0, litLD5_1, litLD5_2]; rw [sizeLine_eq]; omega)); intro t9 k9; (try dsimp only)))
  (k_with "call type:str" => k_dflt (refine str_nat ?hn ?_; (case hn => exact hd2); intro t9 k9 ln9; (try dsimp only)))
  (k_with "subscriptTail Name Constant ref int" => ((with_reducible show wpAny _ _ (subscriptTail _ _ (Value.ref _) (Value.int _ _)) _ _ _); (with_reducible rename News _ _ _ _ => N9); k_dflt (refine item_made N9 (by first | k_mem) (by decide) (by decide) rfl ?_; (try dsimp only))))
  (k_with "call ref" => ((with_reducible show wpAny _ _ (call (Value.ref 132) _) _ _ _); k_dflt (refine' c_text2 ?k1 ?k2 ?k3 ?k4 ?k5 ?kK ?kd ?ku ?q0 ?_; (case k1 => k_asm); (case k2 => k_asm); (case k3 => k_asm); (case k4 => k_asm); (case k5 => k_asm); (case kK => rfl); (case kd => ktr_room); (case ku => ktr_units); (case q0 => exact hw1); (intro t9 h9 tk9 ln9 F9 N9); (try dsimp only))))
  k_steps
  k_dflt (refine' hret _ _ _ _ ?zl ?zF ?zN; (case zF => (refine fr_ub (by with_reducible assumption) ?_; (repeat' (first | exact lkup0 | refine lkupc ?_ ?_)) <;> rfl)); (case zN => (refine news_sub (by with_reducible assumption) ?_; (repeat' (first | with_reducible_and_instances apply sub_refl | refine sub_cons (by with_reducible_and_instances k_mem) ?_ | refine sub_skip ?_)))); (case zl => (unfold fewT; simp only [PySem.Str.length_append, len_one, litLD5_0, litLD5_1, litLD5_2]; omega)))
theorem law_d6 {w : World} {p : Program} {loose : List Str} {mean : ExcName → Option Value} {mg mb : Str → Option Value} {dp un : Nat} {gd : Option (List Code)} {a : Addr} {ccd : Value} {A₀ : Around} {h₀ : Heap} {L : Addr} {s : Shared} {Q : Flow → Shared → Prop} {E : Value → Shared → Prop} {cs : Scope} {u : Str → Option Value} {news : List (Addr × Obj)} {wl ls : Addr} {mk d2 : Nat} {rp fw : Str} {w0 w1 : List UInt8} {t6 t8 t9 t12 t13 : Tok} {st0 : Stmt}
  (B : Below A₀ h₀ [] h₀) (F : Fr h₀ L s.heap (ub u [(Str.ofString "few", .str fw t9), (Str.ofString "mark", .str ⟨#[mk]⟩ t6), (Str.ofString "reply", .str rp t8), (Str.ofString "lists", .ref ls)])) (X : (hd.heap_39 w.params).In h₀) (N : News h₀ L s.heap (news)) (T : Top p loose mean mg mb h₀) (hp : lawSeg 14 1 w.params = some ([st0], cs))
  (hdp : dp + 100 < recursionLimit) (hu : un + 9000 < cLine) (hfl : fw.length ≤ 200) (hf : r229 fw = some .proto) (hq : r229 (Str.ofString "229 212)") = some .proto)
  (hret : ∀ h' tk' m', Fr h₀ L h' (ub m' [(Str.ofString "mark", .str ⟨#[mk]⟩ t6), (Str.ofString "reply", .str rp t8), (Str.ofString "lists", .ref ls)]) → News h₀ L h' news → Q .next { s with heap := h', toks := tk' }) :
  wpAny (model PySem.Challenge.rw_xi0006_01.row.prog w) (ktrTop dp un gd (Str.ofString "law") cs L a ccd [] []) (execs [st0] (envX (Str.ofString "law") cs L a ccd [])) Q E s := by
  refine' use_parts hp (y := ([?sta0], Scope.mk ?sc1 ?sc2 ?sc3 ?sc4 ?sc5)) ?e ?_
  case e => k_dflt (unfold lawSeg lawParts; rfl)
  intro e9
  cases e9
  k_with_none
  revert X; k_fill; intro X
  (k_with "call ref" => ((with_reducible show wpAny _ _ (call (Value.ref 144) _) _ _ _); k_dflt (refine' c_read ?k1 ?k2 ?k3 ?k4 ?k5 ?kK ?kd ?ku ?q0 ?q1 ?q2 ?_; (case k1 => k_asm); (case k2 => k_asm); (case k3 => k_asm); (case k4 => k_asm); (case k5 => k_asm); (case kK => rfl); (case kd => ktr_room); (case ku => ktr_units); (case q0 => k_mem); (case q1 => (first | exact Nat.le_trans hfl (by decide) | decide +kernel)); (case q2 => first | exact hf | exact hq); (intro tl t12 h9 tk9 F9 N9 ltl; (try dsimp only [outObj] at N9); (k_lt ltl)); (try dsimp only))))
  (k_with "compareOp NotEq ref ref" => ((with_reducible rename News _ _ _ _ => N9); k_dflt (refine' ne_listsG N9 ?ya ?yb ?yc ?yd ?_; (case ya => k_mem); (case yb => k_mem); (case yc => (repeat' first | exact .nil | refine .cons ?_ ?_ | exact alike_str | exact alike_int | exact alike_bytes)); (case yd => ktr_units))))
  k_steps
  k_dflt (refine' hret _ _ _ ?zF ?zN; (case zF => (refine fr_ub (by with_reducible assumption) ?_; (repeat' (first | exact lkup0 | refine lkupc ?_ ?_)) <;> rfl)); (case zN => (refine news_sub (by with_reducible assumption) ?_; (repeat' (first | with_reducible_and_instances apply sub_refl | refine sub_cons (by with_reducible_and_instances k_mem) ?_ | refine sub_skip ?_)))))
end Mine
end
theorem Mine.walk_off_LD7 : True := by
  w_top off
  exact True.intro
section
open PySem PySem.W PyProof.Rows
set_option Elab.async false
set_option maxRecDepth 100000
set_option maxHeartbeats 8000000
namespace Mine
theorem litLD7_0 : (Str.ofString "129").length = 3 := by decide +kernel
theorem litLD7_1 : (Str.ofString "219").length = 3 := by decide +kernel
theorem litLD7_2 : (Str.ofString "228 ").length = 4 := by decide +kernel
theorem law_d7 {w : World} {p : Program} {loose : List Str} {mean : ExcName → Option Value} {mg mb : Str → Option Value} {dp un : Nat} {gd : Option (List Code)} {a : Addr} {ccd : Value} {A₀ : Around} {h₀ : Heap} {L : Addr} {s : Shared} {Q : Flow → Shared → Prop} {E : Value → Shared → Prop} {cs : Scope} {u : Str → Option Value} {news : List (Addr × Obj)} {ls : Addr} {mk : Nat} {rp sp : Str} {t6 t8 t9 : Tok} {st0 : Stmt}
  (B : Below A₀ h₀ [] h₀) (F : Fr h₀ L s.heap (ub u [(Str.ofString "spoilt", .str sp t9), (Str.ofString "mark", .str ⟨#[mk]⟩ t6), (Str.ofString "reply", .str rp t8), (Str.ofString "lists", .ref ls)])) (X : (hd.heap_39 w.params).In h₀) (N : News h₀ L s.heap (news)) (T : Top p loose mean mg mb h₀) (hp : lawForSeg 15 0 1 w.params = some ([st0], cs))
  (hdp : dp + 100 < recursionLimit) (hu : un + 9000 < cLine) (hfl : sp.length ≤ 1000) (hf : r229 sp = some .reply)
  (hret : ∀ h' tk' m', Fr h₀ L h' (ub m' [(Str.ofString "mark", .str ⟨#[mk]⟩ t6), (Str.ofString "reply", .str rp t8), (Str.ofString "lists", .ref ls)]) → News h₀ L h' news → Q .next { s with heap := h', toks := tk' }) :
  wpAny (model PySem.Challenge.rw_xi0006_01.row.prog w) (ktrTop dp un gd (Str.ofString "law") cs L a ccd [] []) (execs [st0] (envX (Str.ofString "law") cs L a ccd [])) Q E s := by
  refine' use_parts hp (y := ([?sta0], Scope.mk ?sc1 ?sc2 ?sc3 ?sc4 ?sc5)) ?e ?_
  case e => k_dflt (unfold lawForSeg lawFor lawParts; rfl)
  intro e9
  cases e9
  k_with_none
  revert X; k_fill; intro X
  (k_with "call ref" => ((with_reducible show wpAny _ _ (call (Value.ref 144) _) _ _ _); k_dflt (refine' c_read ?k1 ?k2 ?k3 ?k4 ?k5 ?kK ?kd ?ku ?q0 ?q1 ?q2 ?_; (case k1 => k_asm); (case k2 => k_asm); (case k3 => k_asm); (case k4 => k_asm); (case k5 => k_asm); (case kK => rfl); (case kd => ktr_room); (case ku => ktr_units); (case q0 => k_mem); (case q1 => exact hfl); (case q2 => exact hf); (intro tl t12 h9 tk9 F9 N9 ltl; (try dsimp only [outObj] at N9); (k_lt ltl)); (try dsimp only))))
  (k_with "compareOp NotEq ref ref" => ((with_reducible rename News _ _ _ _ => N9); k_dflt (refine' ne_listsG N9 ?ya ?yb ?yc ?yd ?_; (case ya => k_mem); (case yb => k_mem); (case yc => (repeat' first | exact .nil | refine .cons ?_ ?_ | exact alike_str | exact alike_int | exact alike_bytes)); (case yd => ktr_units))))
  k_steps
  k_dflt (refine' hret _ _ _ ?zF ?zN; (case zF => (refine fr_ub (by with_reducible assumption) ?_; (repeat' (first | exact lkup0 | refine lkupc ?_ ?_)) <;> rfl)); (case zN => (refine news_sub (by with_reducible assumption) ?_; (repeat' (first | with_reducible_and_instances apply sub_refl | refine sub_cons (by with_reducible_and_instances k_mem) ?_ | refine sub_skip ?_)))))
theorem ld7_step {w : World} {p : Program} {loose : List Str} {mean : ExcName → Option Value} {mg mb : Str → Option Value} {dp un : Nat} {gd : Option (List Code)} {a : Addr} {ccd : Value} {A₀ : Around} {h₀ : Heap} {L : Addr} {s : Shared} {Q : Flow → Shared → Prop} {E : Value → Shared → Prop} {cs : Scope} {u : Str → Option Value} {news : List (Addr × Obj)} {ls ax I : Addr} {mk : Nat} {rp sp : Str} {t6 t8 t9 : Tok} {lo : Obj} {rest : List Value} {st0 : Stmt}
  (B : Below A₀ h₀ [] h₀) (X : (hd.heap_39 w.params).In h₀) (T : Top p loose mean mg mb h₀) (hp : lawForSeg 15 0 1 w.params = some ([st0], cs))
  (hdp : dp + 100 < recursionLimit) (hu : un + 9000 < cLine) (hax : (ax, lo) ∈ news) (hI : ∀ p ∈ news, p.1 ≠ I) (hfl : sp.length ≤ 1000) (hf : r229 sp = some .reply)
  (hnext : ∀ m', ListRest PySem.Challenge.rw_xi0006_01.row.prog w (ktrTop dp un gd (Str.ofString "law") cs L a ccd [] []) E h₀ (envX (Str.ofString "law") cs L a ccd []) (Str.ofString "spoilt") [st0] Q s I (ax, lo) rest (ub m' [(Str.ofString "mark", .str ⟨#[mk]⟩ t6), (Str.ofString "reply", .str rp t8), (Str.ofString "lists", .ref ls)]) (news)) : ListRest PySem.Challenge.rw_xi0006_01.row.prog w (ktrTop dp un gd (Str.ofString "law") cs L a ccd [] []) E h₀ (envX (Str.ofString "law") cs L a ccd []) (Str.ofString "spoilt") [st0] Q s I (ax, lo) (Value.str sp t9 :: rest) (ub u [(Str.ofString "mark", .str ⟨#[mk]⟩ t6), (Str.ofString "reply", .str rp t8), (Str.ofString "lists", .ref ls)]) (news) := by
  refine ListRest.succ ?_
  intro it h tk hcls F1 N1
  have F2 := fr_ub F1 (l := [(Str.ofString "spoilt", .str sp t9), (Str.ofString "mark", .str ⟨#[mk]⟩ t6), (Str.ofString "reply", .str rp t8), (Str.ofString "lists", .ref ls)]) (by (repeat' (first | exact lkup0 | refine lkupc ?_ ?_)) <;> rfl)
  k_dflt (refine' law_d7 B F2 X N1 T hp hdp hu hfl hf ?_)
  intro h' tk' m' F4 N4
  exact UnrEnd.intro F4 N4 news (fun _ h => h) hI ⟨hax, hnext m'⟩
theorem law_d8 {w : World} {p : Program} {loose : List Str} {mean : ExcName → Option Value} {mg mb : Str → Option Value} {dp un : Nat} {gd : Option (List Code)} {a : Addr} {ccd : Value} {A₀ : Around} {h₀ : Heap} {L : Addr} {s : Shared} {Q : Flow → Shared → Prop} {E : Value → Shared → Prop} {cs : Scope} {u : Str → Option Value} {news : List (Addr × Obj)} {ls : Addr} {mk : Nat} {rp : Str} {t6 t8 : Tok} {st0 : Stmt}
  (B : Below A₀ h₀ [] h₀) (F : Fr h₀ L s.heap (ub u [(Str.ofString "mark", .str ⟨#[mk]⟩ t6), (Str.ofString "reply", .str rp t8), (Str.ofString "lists", .ref ls)])) (X : (hd.heap_39 w.params).In h₀) (N : News h₀ L s.heap (news)) (T : Top p loose mean mg mb h₀) (hp : lawSeg 15 1 w.params = some ([st0], cs))
  (hdp : dp + 100 < recursionLimit) (hu : un + 9000 < cLine) (hE : PassesOwn (model PySem.Challenge.rw_xi0006_01.row.prog w) (ktrTop dp un gd (Str.ofString "law") cs L a ccd [] []) (envX (Str.ofString "law") cs L a ccd []) E) (hrl : rp.length ≤ 900) (hsl : (Txt.slice rp (some 3) none).length ≤ 900) (s1 : r229 (Str.ofString "129" ++ Txt.slice rp (some 3) none) = some .reply) (s2 : r229 (Str.ofString "219" ++ Txt.slice rp (some 3) none) = some .reply) (s3 : r229 (Str.ofString "228 " ++ rp) = some .reply)
  (hret : ∀ h' tk' m', Fr h₀ L h' (ub m' [(Str.ofString "lists", .ref ls)]) → News h₀ L h' news → Q .next { s with heap := h', toks := tk' }) :
  wpAny (model PySem.Challenge.rw_xi0006_01.row.prog w) (ktrTop dp un gd (Str.ofString "law") cs L a ccd [] []) (execs [st0] (envX (Str.ofString "law") cs L a ccd [])) Q E s := by
  refine' use_parts hp (y := ([?sta0], Scope.mk ?sc1 ?sc2 ?sc3 ?sc4 ?sc5)) ?e ?_
  case e => k_dflt (unfold lawSeg lawParts; rfl)
  intro e9
  cases e9
  k_with_none
  revert X; k_fill; intro X
  (k_with "binaryOp Add str str" => k_dflt (refine add_str ?_ ?hsz; (case hsz => (simp only [PySem.Str.length_append, len_one, litLD7_0, litLD7_1, litLD7_2]; rw [sizeLine_eq]; omega)); intro t9 k9; (try dsimp only)))
  (k_with "newList" => ((with_reducible rename Fr _ _ _ _ => F9); (with_reducible rename News _ _ _ _ => N9); k_dflt (refine newList_K F9 N9 ?_ (by simp only [List.length_cons, List.length_nil]; rw [sizeLine_eq]; omega)); intro l9 h9 F9 N9 ln9; (try k_lt ln9); (try dsimp only)))
  refine wpAny_execs_cons ?_
  k_dflt (refine' For_invVF F ?k1 ?k2 ?_ (hE := hE); (case k1 => exact rfl); (case k2 => exact rfl))
  (k_with "pyIter ref" => refine Stop.mk ?_)
  k_steps
  refine Stop.out ?_
  (with_reducible rename Fr _ _ _ _ => F1)
  (with_reducible rename News _ _ _ _ => N1)
  have F2 := fr_ub F1 (l := [(Str.ofString "mark", .str ⟨#[mk]⟩ t6), (Str.ofString "reply", .str rp t8), (Str.ofString "lists", .ref ls)]) (by (repeat' (first | exact lkup0 | refine lkupc ?_ ?_)) <;> rfl)
  k_dflt (refine' iter_listUnr rfl F2 N1 (.head _) rfl rfl ?_)
  intro I lI
  have hI := fun p hp => Nat.ne_of_lt (lI p hp)
  k_dflt (refine' ld7_step B X T ?hp1 hdp hu (.head _) hI ?hfl1 s1 ?_; (case hp1 => k_dflt (unfold lawForSeg lawFor lawParts; rfl)); (case hfl1 => (simp only [PySem.Str.length_append, litLD7_0, litLD7_1, litLD7_2]; omega)))
  intro m1
  k_dflt (refine' ld7_step B X T ?hp2 hdp hu (.head _) hI ?hfl2 s2 ?_; (case hp2 => k_dflt (unfold lawForSeg lawFor lawParts; rfl)); (case hfl2 => (simp only [PySem.Str.length_append, litLD7_0, litLD7_1, litLD7_2]; omega)))
  intro m2
  k_dflt (refine' ld7_step B X T ?hp3 hdp hu (.head _) hI ?hfl3 s3 ?_; (case hp3 => k_dflt (unfold lawForSeg lawFor lawParts; rfl)); (case hfl3 => (simp only [PySem.Str.length_append, litLD7_0, litLD7_1, litLD7_2]; omega)))
  intro m3
  refine ListRest.zero ?_
  intro h9' tk9' F9' N9'
  refine wpAny_execs_nil ?_
  have F8 := fr_ub F9' (l := [(Str.ofString "lists", .ref ls)]) (by (repeat' (first | exact lkup0 | refine lkupc ?_ ?_)) <;> rfl)
  exact hret h9' tk9' _ F8 (news_sub N9' (sub_skip sub_refl))
end Mine
end
theorem Mine.walk_off_CL : True := by
  w_top off
  exact True.intro
section
open PySem PySem.W PyProof.Rows PyProof.V PySem.Spec PySem.Calls
set_option maxRecDepth 100000
set_option maxHeartbeats 4000000
namespace Mine
section
variable {prog : Program} {w : World} {A : Around} {E : Value → Shared → Prop} {s : Shared} {h₀ : Heap} {L : Addr} {m : Str → Option Value} {env : Env}
/-- a list unpacked into as many names -/
theorem assign_list {elts : List Expr} {k : Nat} {pos : Pos} {l : Addr} {items : Array Value} {Q : Unit → Shared → Prop} (hh : A.handled = none) (hl : s.heap.IsList l items) (hn : (assignEach elts env).length = items.size) (hstar : (assignEach elts env).findIdx? (·.1) = none)
    (h : ∀ h', Heap.ExtBut s.heap.objs.size s.heap h' → wpAny (model prog w) A (assignInOrder ((assignEach elts env).map (·.2)) items.toList) Q E { s with heap := h' }) : wpAny (model prog w) A (assign (.Tuple elts k pos) env (.ref l)) Q E s := by
  rw [assign_Tuple]
  refine wpAny_bind (wpAny_standAt ?_)
  unfold unpack
  rw [hn, hstar]
  exact wpAny_bind (wpAny_holding (kun_itemsOf hh hl h))
/-- an item of three, its first one told -/
noncomputable def Item3 (news : List (Addr × Obj)) (a : Value) (v : Value) : Prop := ∃ t k b c, v = .ref t ∧ (t, listOf #[a, b, c] k) ∈ news
theorem paired_get {α β : Type} {F : α → β → Prop} {l : List α} {r : List β} (p : Paired F l r) {i : Nat} {v : β} (h : r[i]? = some v) : ∃ a, l[i]? = some a ∧ F a v := by
  obtain ⟨hi, rfl⟩ := List.getElem?_eq_some_iff.mp h
  have hl := paired_len p
  exact ⟨l[i]'(by omega), List.getElem?_eq_getElem (by omega), paired_at p i (by omega) hi⟩
/-- the turns of a comprehension over a list of lists of three, its first ones kept -/
theorem comp3_block {iter elt : Expr} {x y z : Str} {px py pz tp : Pos} {tk : Nat} {scope : Scope} {cl : List (Str × Addr)} {pos : Pos} {s₂ : Shared} {I ax : Addr} {its as : List Value} {k0 : Nat} {news : List (Addr × Obj)} {RR : Value → Addr → Result → Shared → Prop}
    (hcell : ∀ y ∈ scope.names, y.2 ≠ .cell) (hkind : scope.kind = .function) (hx : scope.names.lookup x = some .local) (hy : scope.names.lookup y = some .local) (hz : scope.names.lookup z = some .local) (hxy : x ≠ y) (hxz : x ≠ z) (hh : A.handled = none) (hsz : its.length ≤ sizeLine)
    (hit : s₂.heap.IsListIter I ax 0) (hm : (ax, listOf its.toArray k0) ∈ news) (hI : I < s₂.heap.objs.size) (hI₀ : h₀.get? I = none) (hIL : L ≠ I) (off : ∀ p ∈ news, p.1 ≠ I) (F : Fr h₀ L s₂.heap m) (N : News h₀ L s₂.heap news) (P : Paired (Item3 news) as its)
    (turn : ∀ a I C D oI oC m₂ ys h tk (E' : Value → Shared → Prop), LCg.NsObj oC m₂ → m₂ x = some a → Fr h₀ L h m → News h₀ L h ((I, oI) :: (C, oC) :: (D, LCg.lst ys) :: news) →
      wpAny (model prog w) A (eval elt (compEnvC scope cl C env)) (fun v s₃ => v = a ∧ ∃ h' tk', s₃ = { s₂ with heap := h', toks := tk' } ∧ Fr h₀ L h' m ∧ News h₀ L h' ((I, oI) :: (C, oC) :: (D, LCg.lst ys) :: news)) E' { s₂ with heap := h, toks := tk })
    (hRR : ∀ D C h tk m', Fr h₀ L h m → News h₀ L h ((D, LCg.lst as) :: news) → (∀ p ∈ news, p.1 ≠ D) → h.Ns C m' → h₀.get? C = none → C ≠ L → C ≠ D → (∀ p ∈ news, p.1 ≠ C) → RR (.ref D) C (.ok .next) { s₂ with heap := h, toks := tk }) :
    wpAny (model prog w) A (newList []) (fun acc s₃ => wpAny (model prog w) A (newFunctionEnv scope env.globals cl [] env.qual none .none (some env)) (fun cenv s₄ =>
      codeAny (model prog w) A (.compStart (.ListComp elt [⟨.Tuple [.Name x px, .Name y py, .Name z pz] tk tp, iter, [], 0⟩] scope pos) 0 (.ref I) acc { cenv with scope := relabel scope env }) (RR acc cenv.locals) s₄) E s₃) E s₂ := by
  refine wpAny_newObj_type (wpAny_newFunctionEnv hcell (by intro y hy; simp at hy) (fun h₁ hns₁ hsb₁ => ?_) hkind)
  dsimp only at hns₁ hsb₁ ⊢
  generalize hH2 : s₂.heap.push { cls := .type "list", dict := none, data := .seq ([] : List Value).toArray } = H2 at hns₁ hsb₁ ⊢
  have hC : H2.objs.size = s₂.heap.objs.size + 1 := by rw [← hH2, Heap.size_push]
  have hm0 := N _ hm
  have hax : ax < s₂.heap.objs.size := Heap.lt_size hm0.1
  have hle : as.length = its.length := (paired_len P).symm
  have news_lt : ∀ p ∈ news, p.1 < s₂.heap.objs.size := fun p hp => Heap.lt_size (N p hp).1
  have keep1 : ∀ b o, s₂.heap.get? b = some o → h₁.get? b = some o := fun b o e => hsb₁.extBut b o (by have := Heap.lt_size e; rw [hC]; exact Nat.ne_of_lt (Nat.lt_succ_of_lt this)) (Heap.get?_push_of_some _ (hH2 ▸ Heap.get?_push_of_some _ e))
  have none0 : ∀ b, s₂.heap.objs.size ≤ b → h₀.get? b = none := fun b hb => by
    cases e : h₀.get? b with
    | none => rfl
    | some o => exact absurd (Heap.lt_size (F.keep b o e)) (Nat.not_lt.mpr hb)
  have hD₀ := none0 _ (Nat.le_refl _)
  have hC₀ : h₀.get? H2.objs.size = none := none0 _ (by omega)
  have hLlt : L < s₂.heap.objs.size := F.ns.lt
  have hDL : s₂.heap.objs.size ≠ L := (Nat.ne_of_lt hLlt).symm
  have hCL : H2.objs.size ≠ L := by rw [hC]; exact (Nat.ne_of_lt (Nat.lt_succ_of_lt hLlt)).symm
  have hCD : H2.objs.size ≠ s₂.heap.objs.size := by rw [hC]; exact Nat.succ_ne_self _
  have hID : I ≠ s₂.heap.objs.size := Nat.ne_of_lt hI
  have hIC : I ≠ H2.objs.size := by rw [hC]; exact Nat.ne_of_lt (Nat.lt_succ_of_lt hI)
  have nD : ∀ p ∈ news, p.1 ≠ s₂.heap.objs.size := fun p hp => Nat.ne_of_lt (news_lt p hp)
  have nC : ∀ p ∈ news, p.1 ≠ H2.objs.size := fun p hp => by rw [hC]; exact Nat.ne_of_lt (Nat.lt_succ_of_lt (news_lt p hp))
  have hacc : h₁.get? s₂.heap.objs.size = some (LCg.lst []) := hsb₁.extBut _ _ (by exact hCD.symm) (Heap.get?_push_of_some _ (hH2 ▸ Heap.get?_push_size _ rfl))
  have W := Walks.list (prog := prog) (w := w) hh I ax (fun e => off _ hm e) its.toArray
  have hzz : its.toArray.size = its.length := by simp
  have listAt : ∀ h, News h₀ L h news → h.IsList ax its.toArray := fun h Nh => ⟨_, (Nh _ hm).1, rfl, _, rfl⟩
  have loop : ∀ s₃ : Shared, s₃ = { s₂ with heap := h₁, toks := s₂.toks + ([] : List (Str × Value)).length } →
      codeAny (model prog w) A (.compLoop (.ListComp elt [⟨.Tuple [.Name x px, .Name y py, .Name z pz] tk tp, iter, [], 0⟩] scope pos) 0 (.ref I) (.ref s₂.heap.objs.size) (compEnvC scope cl H2.objs.size env)) (RR (.ref s₂.heap.objs.size) H2.objs.size) s₃ := by
    rintro s₃ rfl
    refine LCp.codeAny_compLoop_pair
      (fun k s' => ∃ h' tk i m', s' = { s₂ with heap := h', toks := tk } ∧ i ≤ its.length ∧ k = its.length + 1 - i ∧ h'.IsListIter I ax i ∧ Fr h₀ L h' m ∧ h'.Ns H2.objs.size m' ∧ News h₀ L h' ((s₂.heap.objs.size, LCg.lst (as.take i)) :: news)) ?_ (its.length + 1)
      ⟨h₁, _, 0, _, rfl, Nat.zero_le _, rfl, hit.at fun o e => keep1 _ o e, F.keeps keep1, hns₁, fun p hp => ?_⟩
    · rintro k s' ⟨h', tk, i, m', rfl, hi, rfl, hit', F', hn', N'⟩
      have Nn : News h₀ L h' news := fun p hp => N' p (.tail _ hp)
      by_cases hlt : i < its.length
      · refine W.item i _ _ _ (by rw [hzz]; exact hlt) ⟨hit', listAt _ Nn⟩ fun v h₂ tk₂ hPv hst₂ hk₂ => ?_
        have hv : its[i]? = some v := by simpa using hPv
        obtain ⟨a, ha, t, kk, b, c, rfl, hmt⟩ := paired_get P hv
        have N₂ : News h₀ L h₂ ((s₂.heap.objs.size, LCg.lst (as.take i)) :: news) := LCg.news_but N' hk₂ fun p hp => by
          rcases List.mem_cons.mp hp with rfl | hp
          · exact hID.symm
          · exact off p hp
        have ht : h₂.IsList t #[a, b, c] := ⟨_, (N₂ _ (.tail _ hmt)).1, rfl, _, rfl⟩
        refine wpAny_letOwnedTupleGo_listiter hst₂.1 ?_
        refine assign_list hh ht rfl rfl fun h₅ he => ?_
        have he' : ∀ b o, h₂.get? b = some o → h₅.get? b = some o := fun b o e => he b o (Nat.ne_of_lt (Heap.lt_size e)) e
        have hn₅ : h₅.Ns H2.objs.size m' := (hn'.at' fun o e => hk₂ _ o (by simpa using hIC.symm) e).at' fun o e => he' _ o e
        refine assignInOrder_cons (wpAny_assign_Name (wpAny_storeName_local (lookup_relabel_local hx) hn₅ (fun h₆ hn₆ hs₆ => ?_) (by simp [compEnvC, relabel, hkind])))
        refine assignInOrder_cons (wpAny_assign_Name (wpAny_storeName_local (lookup_relabel_local hy) hn₆ (fun h₇ hn₇ hs₇ => ?_) (by simp [compEnvC, relabel, hkind])))
        refine assignInOrder_cons (wpAny_assign_Name (wpAny_storeName_local (lookup_relabel_local hz) hn₇ (fun h₃ hn₃ hs₃ => ?_) (by simp [compEnvC, relabel, hkind])))
        refine assignInOrder_nil ?_
        have keep3 : ∀ b o, b ≠ H2.objs.size → h₂.get? b = some o → h₃.get? b = some o := fun b o hb e => hs₃.extBut b o hb (hs₇.extBut b o hb (hs₆.extBut b o hb (he' b o e)))
        have hit₃ : h₃.IsListIter I ax (i + 1) := hst₂.1.at fun o e => keep3 _ o hIC e
        obtain ⟨oI, heI, hcI, hdI⟩ := id hit₃
        obtain ⟨oC, heC, hoC⟩ := LCg.ns_obj hn₃
        have F₃ : Fr h₀ L h₃ m := ((((LCg.fr_but F' hk₂ hIL hI₀).keeps he').change hs₆ hCL hC₀).change hs₇ hCL hC₀).change hs₃ hCL hC₀
        have N₃ : News h₀ L h₃ ((I, oI) :: (H2.objs.size, oC) :: (s₂.heap.objs.size, LCg.lst (as.take i)) :: news) := fun p hp => by
          rcases List.mem_cons.mp hp with rfl | hp
          · exact ⟨heI, hIL.symm, hI₀⟩
          · rcases List.mem_cons.mp hp with rfl | hp
            · exact ⟨heC, hCL, hC₀⟩
            · have g := N₂ p hp
              refine ⟨keep3 _ _ ?_ g.1, g.2⟩
              rcases List.mem_cons.mp hp with rfl | hp
              · exact hCD.symm
              · exact nC p hp
        refine wpAny_mono (turn a I H2.objs.size s₂.heap.objs.size oI oC _ (as.take i) h₃ _ _ hoC (by simp [hxy, hxz]) F₃ N₃) (fun v' s₄ h₄ => ?_) fun _ _ e => e
        obtain ⟨rfl, h₄, tk₄, rfl, F₄, N₄⟩ := h₄
        have zI := (N₄ (I, oI) (.head _)).1
        have zC := (N₄ (H2.objs.size, oC) (.tail _ (.head _))).1
        have zD := (N₄ (s₂.heap.objs.size, LCg.lst (as.take i)) (.tail _ (.tail _ (.head _)))).1
        have hyl : (as.take i).length = i := by rw [List.length_take]; omega
        refine append_at (hsz := by show (as.take i).toArray.size ≤ sizeLine; rw [List.size_toArray, hyl]; omega) zD fun h₅' hs₅ hD₅ => ?_
        refine ⟨its.length + 1 - (i + 1), by omega, h₅', tk₄, i + 1, _, rfl, hlt, rfl, (show h₄.IsListIter I ax (i + 1) from ⟨oI, zI, hcI, hdI⟩).at fun o e => hs₅.extBut _ o hID e, F₄.change hs₅ hDL hD₀, (hoC.ns zC).sameBut hs₅ hCD, fun p hp => ?_⟩
        have hta : as.take (i + 1) = as.take i ++ [v'] := by rw [List.take_add_one, ha]; rfl
        rcases List.mem_cons.mp hp with rfl | hp
        · refine ⟨?_, hDL, hD₀⟩
          rw [hta]
          exact hD₅.trans (congrArg some (LCg.lst_snoc (as.take i) v'))
        · have g := N₄ p (.tail _ (.tail _ (.tail _ hp)))
          exact ⟨hs₅.extBut _ _ (nD p hp) g.1, g.2⟩
      · obtain rfl : i = its.length := Nat.le_antisymm hi (Nat.not_lt.mp hlt)
        refine W.done _ _ _ (by rw [hzz]; exact ⟨hit', listAt _ Nn⟩) fun h₂ tk₂ hk₂ => ?_
        have hta : as.take its.length = as := by rw [← hle]; exact List.take_length
        rw [hta] at N'
        refine hRR _ _ h₂ tk₂ _ (LCg.fr_but F' hk₂ hIL hI₀) (LCg.news_but N' hk₂ fun p hp => ?_) nD (hn'.at' fun o e => hk₂ _ o (by simpa using hIC.symm) e) hC₀ hCL hCD nC
        rcases List.mem_cons.mp hp with rfl | hp
        · exact hID.symm
        · exact off p hp
    · rcases List.mem_cons.mp hp with rfl | hp
      · exact ⟨hacc, hDL, hD₀⟩
      · exact ⟨keep1 _ _ (N p hp).1, (N p hp).2⟩
  exact codeAny_compStart_list (loop _ rfl) (W.self 0 _ _ _ ⟨hit.at fun o e => keep1 _ o e, listAt _ fun p hp => ⟨keep1 _ _ (N p hp).1, (N p hp).2⟩⟩ (loop _ rfl))
theorem ListComp_3 {iter : Expr} {x y z : Str} {px py pz tp pe : Pos} {tk : Nat} {scope : Scope} {cl : List (Str × Addr)} {pos : Pos} {Q : Value → Shared → Prop}
    (_F₀ : Fr h₀ L s.heap m) (hclos : closureFor scope env = pure cl) (hcell : ∀ y ∈ scope.names, y.2 ≠ .cell) (hkind : scope.kind = .function) (hnames : ∀ y ∈ scope.names, y.2 = .local → scope.names.lookup y.1 = some .local)
    (hx : scope.names.lookup x = some .local) (hy : scope.names.lookup y = some .local) (hz : scope.names.lookup z = some .local) (hxy : x ≠ y) (hxz : x ≠ z) (hdb : (x == ("__debug__" : Str)) = false)
    (h : wpAny (model prog w) A (eval iter env) (fun xv s₁ => ∃ ax its as k0 news, xv = .ref ax ∧ A.handled = none ∧ Fr h₀ L s₁.heap m ∧ News h₀ L s₁.heap news ∧ (ax, listOf (List.toArray its) k0) ∈ news ∧ its.length ≤ sizeLine ∧ Paired (Item3 news) as its ∧
      ∀ D h tk, Fr h₀ L h m → News h₀ L h ((D, LCg.lst as) :: news) → Q (.ref D) { s₁ with heap := h, toks := tk }) E s)
    (hs : ∀ x, foldedSetIterable iter env x = pure x := by intro _; rfl) :
    wpAny (model prog w) A (eval (.ListComp (.Name x pe) [⟨.Tuple [.Name x px, .Name y py, .Name z pz] tk tp, iter, [], 0⟩] scope pos) env) Q E s := by
  rw [eval_ListComp]
  refine wpAny_comprehension_free (use := none) rfl hs hclos hkind hnames (wpAny_mono h (fun xv s₁ h₁ => ?_) fun _ _ e => e)
  obtain ⟨ax, its, as, k0, news, rfl, hh, F, N, hm, hsz, P, fin⟩ := h₁
  have hl : s₁.heap.IsList ax its.toArray := ⟨_, (N _ hm).1, rfl, _, rfl⟩
  refine wpAny_pyIter_list hl ?_
  have up : ∀ b o, s₁.heap.get? b = some o → (s₁.heap.push { cls := .type "list_iterator", data := .fields #[.ref ax, .int 0 0] }).get? b = some o := fun b o e => Heap.get?_push_of_some _ e
  refine comp3_block hcell hkind hx hy hz hxy hxz hh hsz ⟨_, Heap.get?_push_size _ rfl, rfl, rfl⟩ hm ?_ (next_is_new F) (Nat.ne_of_lt F.ns.lt) (fun p hp => Nat.ne_of_lt (Heap.lt_size (N p hp).1)) (F.keeps up) (N.grown up) P ?_ ?_
  · show s₁.heap.objs.size < (s₁.heap.push _).objs.size
    rw [Heap.size_push]; exact Nat.lt_succ_self _
  · intro a I C D oI oC m₂ ys h tk E' hC hxa F' N'
    refine wpAny_Name (wpAny_loadName_local (m := m₂) (by simp [compEnvC, relabel, hkind]) (lookup_relabel_local hx) (hC.ns (N' (C, oC) (.tail _ (.head _))).1) hxa ⟨rfl, h, tk, rfl, F', N'⟩) hdb
  · intro D C h tk m' F' N' hDn hn hC₀ hCL hCD offC
    refine ⟨m', hn, fun h'' hs'' => fin D h'' tk (F'.change hs'' hCL hC₀) (fun p hp => ?_)⟩
    refine ⟨hs''.extBut _ _ ?_ (N' p hp).1, (N' p hp).2⟩
    rcases List.mem_cons.mp hp with rfl | hp
    · exact hCD.symm
    · exact offC p hp
end
end Mine
end
theorem Mine.walk_off_LD9 : True := by
  w_top off
  exact True.intro
section
open PySem PySem.W PyProof.Rows
set_option Elab.async false
set_option maxRecDepth 100000
set_option maxHeartbeats 8000000
namespace Mine
theorem alike_ints {s : Shared} : ∀ {vs us : List Value} {ns : List Int}, IntsAre vs ns → IntsAre us ns → Paired (Alike s) vs us
  | _, _, _, .nil, .nil => .nil
  | _, _, _, .cons _ _ r, .cons _ _ r' => .cons alike_int (alike_ints r r')
theorem paired_mono3 {els els' : List (Addr × Obj)} {as lv : List Value} (P : Paired (Item3 els) as lv) (h : ∀ p ∈ els, p ∈ els') : Paired (Item3 els') as lv := by
  induction P with
  | nil => exact .nil
  | cons a _ ih =>
    obtain ⟨t, k, b, c, e, hm⟩ := a
    exact .cons ⟨t, k, b, c, e, h _ hm⟩ ih
theorem item_neg1 {prog : Program} {w : World} {A : Around} {E : Value → Shared → Prop} {s : Shared} {value slice : PySem.Expr} {h₀ : Heap} {L : Addr} {news : List (Addr × Obj)} {Q : Value → Shared → Prop} {D : Addr} {vi : List Value} {v : Value} {u : Tok} {n : Nat} (N : News h₀ L s.heap news) (hm : (D, listOf (vi ++ [v]).toArray n) ∈ news) (hz : vi.length ≤ 1000) (h : Q v s)
    (hs : subscripted slice false (.ref D) (.int (-1) u) = operate [.ref D, .int (-1) u] (getItem (.ref D) (.int (-1) u)) := by with_unfolding_all rfl) :
    wpAny (model prog w) A (subscriptTail value slice (.ref D) (.int (-1) u)) Q E s :=
  tail_any (show s.heap.IsList D (vi ++ [v]).toArray from ⟨_, (N _ hm).1, rfl, n, rfl⟩).typeIs slot_list_getitem.lookup (wpAny_getItem_list_neg (show s.heap.IsList D (vi ++ [v]).toArray from ⟨_, (N _ hm).1, rfl, n, rfl⟩) (by decide) (by simp; omega) (by decide) (by
    have e : ((-1 : Int) + ((vi ++ [v]).toArray.size : Int)).toNat = vi.length := by simp; omega
    rw [e]; simp) h) hs
theorem law_d9 {w : World} {p : Program} {loose : List Str} {mean : ExcName → Option Value} {mg mb : Str → Option Value} {dp un : Nat} {gd : Option (List Code)} {a : Addr} {ccd : Value} {A₀ : Around} {h₀ : Heap} {L : Addr} {s : Shared} {Q : Flow → Shared → Prop} {E : Value → Shared → Prop} {cs : Scope} {u : Str → Option Value} {els : List (Addr × Obj)} {ls s0 sz : Addr} {lv lv0 lvi as : List Value} {lo mi hi g : Int} {row : List Int} {ta tb tc td te tf : Tok} {k2 c0 cz : Nat} {st0 st1 : Stmt}
  (B : Below A₀ h₀ [] h₀) (F : Fr h₀ L s.heap (ub u [(Str.ofString "lists", .ref ls)])) (X : (hd.heap_39 w.params).In h₀) (N : News h₀ L s.heap ((ls, listOf lv.toArray k2) :: els)) (T : Top p loose mean mg mb h₀) (hp : lawSeg 16 2 w.params = some ([st0, st1], cs))
  (hdp : dp + 100 < recursionLimit) (hu : un + 9000 < cLine) (hx0 : lv = Value.ref s0 :: lv0) (m0 : (s0, listOf #[.int lo ta, .int mi tb, .int hi tc] c0) ∈ els) (hxl : lv = lvi ++ [Value.ref sz]) (mz : (sz, listOf #[.int 0 td, .int g te, .int g tf] cz) ∈ els) (hlz : lv.length ≤ 20)
  (h1 : 0 ≤ lo) (h2 : lo < 2 ^ 20) (h3 : 0 ≤ mi) (h4 : mi < 2 ^ 20) (he : euc 12 mi lo = some (row, g)) (has : IntsAre as row) (P : Paired (Item3 els) as lv)
  (hret : ∀ h' tk' m', Fr h₀ L h' m' → News h₀ L h' els → Q (.ret (.bool true)) { s with heap := h', toks := tk' }) :
  wpAny (model PySem.Challenge.rw_xi0006_01.row.prog w) (ktrTop dp un gd (Str.ofString "law") cs L a ccd [] []) (execs [st0, st1] (envX (Str.ofString "law") cs L a ccd [])) Q E s := by
  refine' use_parts hp (y := ([?sta0, ?sta1], Scope.mk ?sc1 ?sc2 ?sc3 ?sc4 ?sc5)) ?e ?_
  case e => k_dflt (unfold lawSeg lawParts; rfl)
  intro e9
  cases e9
  k_with_none
  revert X; k_fill; intro X
  (k_with "subscriptTail" => ((with_reducible show wpAny _ _ (subscriptTail _ _ (Value.ref s0) (Value.int _ _)) _ _ _); (with_reducible rename News _ _ _ _ => N9); k_dflt (refine item_made N9 (by (first | exact (.tail _ m0) | exact .tail _ ((.tail _ m0)) | exact .tail _ (.tail _ ((.tail _ m0))) | exact .tail _ (.tail _ (.tail _ ((.tail _ m0)))) | exact .tail _ (.tail _ (.tail _ (.tail _ ((.tail _ m0))))) | exact .tail _ (.tail _ (.tail _ (.tail _ (.tail _ ((.tail _ m0)))))) | exact .tail _ (.tail _ (.tail _ (.tail _ (.tail _ (.tail _ ((.tail _ m0))))))) | exact .tail _ (.tail _ (.tail _ (.tail _ (.tail _ (.tail _ (.tail _ ((.tail _ m0)))))))) | exact .tail _ (.tail _ (.tail _ (.tail _ (.tail _ (.tail _ (.tail _ (.tail _ ((.tail _ m0))))))))) | exact .tail _ (.tail _ (.tail _ (.tail _ (.tail _ (.tail _ (.tail _ (.tail _ (.tail _ ((.tail _ m0)))))))))))) (by decide) (by decide) rfl ?_; (try dsimp only))))
  (k_with "subscriptTail" => ((with_reducible show wpAny _ _ (subscriptTail _ _ (Value.ref ls) (Value.int 0 _)) _ _ _); (with_reducible rename News _ _ _ _ => N9); k_dflt (refine item_made (v := Value.ref s0) N9 (by k_mem) (by decide) (by decide) (by rw [hx0]; rfl) ?_; (try dsimp only))))
  (k_with "call ref" => ((with_reducible show wpAny _ _ (call (Value.ref 158) _) _ _ _); k_dflt (refine' c_run ?k1 ?k2 ?k3 ?k4 ?k5 ?kK ?kd ?ku ?q0 ?q1 ?q2 ?q3 ?q4 ?q5 ?q6 ?_; (case k1 => k_asm); (case k2 => k_asm); (case k3 => k_asm); (case k4 => k_asm); (case k5 => k_asm); (case kK => rfl); (case kd => ktr_room); (case ku => ktr_units); (case q0 => exact row); (case q1 => exact g); (case q2 => exact h3); (case q3 => exact h4); (case q4 => exact h1); (case q5 => exact h2); (case q6 => exact he); (intro rb rc rvs rk rt h9 tk9 F9 ri N9 l8 l9 l7; (k_lt l8); (k_lt l9)); (try dsimp only))))
  (k_with "eval ListComp" => refine Stop.mk ?_)
  k_steps
  refine Stop.out ?_
  (with_reducible rename Fr _ _ _ _ => F1)
  (with_reducible rename News _ _ _ _ => N1)
  k_dflt (refine' ListComp_3 (cl := []) F1 ?c1 ?c2 ?c3 ?c4 ?c5 ?c6 ?c7 ?c8 ?c9 ?c10 ?_; (case c1 => with_unfolding_all rfl); (case c2 => decide); (case c3 => rfl); (case c4 => decide); (case c5 => rfl); (case c6 => rfl); (case c7 => rfl); (case c8 => decide); (case c9 => decide); (case c10 => decide))
  walk1
  k_dflt (refine' ⟨ls, lv, as, k2, _, rfl, rfl, F1, N1, ?mm, ?zz, paired_mono3 P (fun p hp => List.mem_cons_of_mem _ (List.mem_cons_of_mem _ (List.mem_cons_of_mem _ hp))), ?_⟩; (case mm => k_mem); (case zz => (rw [sizeLine_eq]; omega)))
  intro D2 h2' tk2 F2 N2
  (k_with "compareOp Eq ref ref" => ((with_reducible show wpAny _ _ (compareOp _ (Value.ref sz) (Value.ref _)) _ _ _); (with_reducible rename News _ _ _ _ => N9); k_dflt (refine' eq_listsG N9 ?ya ?yb ?yc ?yd ?_; (case ya => (first | exact (.tail _ mz) | exact .tail _ ((.tail _ mz)) | exact .tail _ (.tail _ ((.tail _ mz))) | exact .tail _ (.tail _ (.tail _ ((.tail _ mz)))) | exact .tail _ (.tail _ (.tail _ (.tail _ ((.tail _ mz))))) | exact .tail _ (.tail _ (.tail _ (.tail _ (.tail _ ((.tail _ mz)))))) | exact .tail _ (.tail _ (.tail _ (.tail _ (.tail _ (.tail _ ((.tail _ mz))))))) | exact .tail _ (.tail _ (.tail _ (.tail _ (.tail _ (.tail _ (.tail _ ((.tail _ mz)))))))) | exact .tail _ (.tail _ (.tail _ (.tail _ (.tail _ (.tail _ (.tail _ (.tail _ ((.tail _ mz))))))))) | exact .tail _ (.tail _ (.tail _ (.tail _ (.tail _ (.tail _ (.tail _ (.tail _ (.tail _ ((.tail _ mz)))))))))))); (case yb => k_mem); (case yc => (repeat' first | exact .nil | refine .cons ?_ ?_ | exact alike_str | exact alike_int | exact alike_bytes)); (case yd => ktr_units))))
  (k_with "compareOp Eq ref ref" => ((with_reducible show wpAny _ _ (compareOp _ (Value.ref D2) (Value.ref _)) _ _ _); (with_reducible rename News _ _ _ _ => N9); k_dflt (refine' eq_listsG N9 ?ya ?yb (alike_ints has ri) ?yd ?_; (case ya => k_mem); (case yb => k_mem); (case yd => ktr_units))))
  (k_with "subscriptTail" => ((with_reducible show wpAny _ _ (subscriptTail _ _ (Value.ref ls) (Value.int (-1) _)) _ _ _); (with_reducible rename News _ _ _ _ => N9); k_dflt (refine' item_neg1 (vi := lvi) (v := Value.ref sz) N9 ?hm ?hz ?_; (case hm => (rw [← hxl]; k_mem)); (case hz => (have := congrArg List.length hxl; simp at this; omega)); (try dsimp only))))
  try dsimp only
  k_steps
  exact hret _ _ _ (by assumption) (by (refine news_sub (by with_reducible assumption) ?_; (repeat' (first | with_reducible_and_instances apply sub_refl | refine sub_cons (by with_reducible_and_instances k_mem) ?_ | refine sub_skip ?_))))
end Mine
end
theorem Mine.walk_off_LE : True := by
  w_top off
  exact True.intro
section
open PySem PySem.W PyProof.Rows
set_option Elab.async false
set_option maxRecDepth 100000
set_option maxHeartbeats 8000000
namespace Mine
noncomputable abbrev flg (d0 d1 d2 : Nat) : List (List UInt8) := [apl d0, apl d1, octs (nt d2)].filter (· ≠ [])
/-- what is asked of the last reply, and of the spoilt ones -/
noncomputable def EndOk (m d0 d1 d2 : Nat) : Prop :=
  (∀ c ∈ (replyT m d0 d1 d2).cps.toList, c < 256) ∧ (replyT m d0 d1 d2).cps.size < 900 ∧ FlagsOk ([70, 76, 65, 71, 83, 32, 40, 66, 41, 32] ++ octs (replyT m d0 d1 d2)) (flg d0 d1 d2) ∧ FlagsOk ([10] ++ octs (replyT m d0 d1 d2)) [] ∧
  (bodyT m d0 d1 d2).length ≤ 200 ∧ (lessT (bodyT m d0 d1 d2)).length ≤ 300 ∧ SpOk (moreT m (bodyT m d0 d1 d2)) (flg d0 d1 d2) ∧ SpOk (lessT (bodyT m d0 d1 d2)) [] ∧ SpOk (lessT (bodyT m d0 d1 d2) ++ Str.ofString ")") (flg d0 d1 d2 ++ [[66]]) ∧
  r229 (fewT m (apl d1) d2) = some .proto ∧ (Txt.slice (replyT m d0 d1 d2) (some 3) none).length ≤ 900 ∧ r229 (Str.ofString "129" ++ Txt.slice (replyT m d0 d1 d2) (some 3) none) = some .reply ∧ r229 (Str.ofString "219" ++ Txt.slice (replyT m d0 d1 d2) (some 3) none) = some .reply ∧ r229 (Str.ofString "228 " ++ replyT m d0 d1 d2) = some .reply
theorem flg_ne {d0 d1 d2 : Nat} : flg d0 d1 d2 ≠ [] := by
  intro h
  have := List.filter_eq_nil_iff.mp h (octs (nt d2)) (by simp)
  simp [octs_ne] at this
theorem el_three {els : List (Addr × Obj)} {n : List Int} {x : Value} {p q r : Int} (h : ElAt els n x) (e : n = [p, q, r]) : ∃ s t1 t2 t3 k, x = .ref s ∧ (s, listOf #[.int p t1, .int q t2, .int r t3] k) ∈ els := by
  obtain ⟨s, v, cc, rfl, hm, hi⟩ := h
  subst e
  cases hi with
  | cons _ t1 r1 =>
    cases r1 with
    | cons _ t2 r2 =>
      cases r2 with
      | cons _ t3 r3 =>
        cases r3
        exact ⟨s, t1, t2, t3, cc, rfl, hm⟩
theorem firsts {els : List (Addr × Obj)} {u : Int} : ∀ {R : List (Nat × Nat × Nat)} {lv : List Value}, Paired (fun t x => ElAt els (sl u t) x) R lv → ∃ as, IntsAre as (R.map fun t => ((srt t).1 : Int) * u) ∧ Paired (Item3 els) as lv
  | _, _, .nil => ⟨[], .nil, .nil⟩
  | _, _, .cons h r => by
    obtain ⟨as, h1, h2⟩ := firsts r
    obtain ⟨s, t1, t2, t3, k, rfl, hm⟩ := el_three h rfl
    exact ⟨_ :: as, .cons _ t1 h1, .cons ⟨s, k, _, _, rfl, hm⟩ h2⟩
/-- the game's end, in units of u -/
theorem game_end {v1 v2 u : Int} (h1 : -7 ≤ v1 ∧ v1 ≤ 7) (h2 : -7 ≤ v2 ∧ v2 ≤ 7) (hu : 1 ≤ u ∧ u ≤ 65536) {R : List (Nat × Nat × Nat)} (hR : R = rings 20 (0, v1, v2)) :
    (∀ t ∈ R, t.1 ≤ 14 ∧ t.2.1 ≤ 14 ∧ t.2.2 ≤ 14) ∧ (∃ z, R.getLast? = some z ∧ fin3 z = true) ∧
    ∃ a Rt Ri z g, R = a :: Rt ∧ R = Ri ++ [z] ∧ euc 12 (((srt a).2.1 : Int) * u) (((srt a).1 : Int) * u) = some (R.map fun t => ((srt t).1 : Int) * u, g) ∧ sl u z = [0, g, g] := by
  have hg := game h1 h2
  unfold okGame at hg
  rw [← hR] at hg
  dsimp only at hg
  cases ha : R.head? with
  | none => rw [ha] at hg; cases hg
  | some a =>
    cases hz : R.getLast? with
    | none => rw [ha, hz] at hg; cases hg
    | some z =>
      rw [ha, hz] at hg
      dsimp only at hg
      rw [Bool.and_eq_true, Bool.and_eq_true] at hg
      obtain ⟨⟨b1, b2⟩, b3⟩ := hg
      have c1 : ∀ t ∈ R, t.1 ≤ 14 ∧ t.2.1 ≤ 14 ∧ t.2.2 ≤ 14 := by
        intro t ht
        have := List.all_eq_true.mp b1 t ht
        simpa [and_assoc] using this
      refine ⟨c1, ⟨z, rfl, b2⟩, ?_⟩
      obtain ⟨Rt, hRt⟩ : ∃ Rt, R = a :: Rt := by
        cases R with
        | nil => cases ha
        | cons x r => cases ha; exact ⟨r, rfl⟩
      obtain ⟨Ri, hRi⟩ : ∃ Ri, R = Ri ++ [z] := by
        obtain ⟨ys, e⟩ := List.getLast?_eq_some_iff.mp hz
        exact ⟨ys, e⟩
      cases he : euc 12 ((srt a).2.1 : Int) ((srt a).1 : Int) with
      | none => rw [he] at b3; cases b3
      | some p =>
        obtain ⟨row, g⟩ := p
        rw [he] at b3
        dsimp only at b3
        simp only [Bool.and_eq_true, decide_eq_true_eq] at b3
        obtain ⟨⟨⟨d1, d2⟩, d3⟩, d4⟩ := b3
        refine ⟨a, Rt, Ri, z, g * u, hRt, hRi, ?_, ?_⟩
        · rw [euc_scale u (by omega), he]
          show some (row.map (· * u), g * u) = _
          rw [← d1, List.map_map]
          rfl
        · unfold sl
          rw [d2, d3, d4, Int.zero_mul]
end Mine
end
theorem Mine.walk_off_LF : True := by
  w_top off
  exact True.intro
section
open PySem PySem.W PyProof.Rows
set_option Elab.async false
set_option maxRecDepth 100000
set_option maxHeartbeats 8000000
namespace Mine
theorem rings_len : ∀ (k : Nat) (t : Int × Int × Int), (rings k t).length ≤ k
  | 0, _ => Nat.le_refl _
  | k + 1, t => by
    unfold rings
    split
    · simp
    · have := rings_len k (up3 (dif t))
      simp; omega
theorem srt_le {a : Nat × Nat × Nat} (h : a.1 ≤ 14 ∧ a.2.1 ≤ 14 ∧ a.2.2 ≤ 14) : (srt a).1 ≤ 14 ∧ (srt a).2.1 ≤ 14 := by
  obtain ⟨x, y, z⟩ := a
  obtain ⟨p, q, r, e, _, _, hp⟩ := srt_cases x y z
  have hall : ∀ n ∈ [p, q, r], n ≤ 14 := by
    intro n hn
    have := hp.mem_iff.mp hn
    simp only [List.mem_cons, List.not_mem_nil, or_false] at this
    rcases this with rfl | rfl | rfl
    · exact h.1
    · exact h.2.1
    · exact h.2.2
  rw [e]
  exact ⟨hall p (by simp), hall q (by simp)⟩
theorem bnd20 {n : Nat} {u : Int} (h : n ≤ 14) (h3 : 1 ≤ u ∧ u ≤ 65536) : 0 ≤ (n : Int) * u ∧ (n : Int) * u < 2 ^ 20 := by
  have a : (n : Int) * u ≤ 14 * 65536 := Int.mul_le_mul (by omega) h3.2 (by omega) (by decide)
  exact ⟨Int.mul_nonneg (by omega) (by omega), by omega⟩
theorem paired_snoc_inv {α β : Type} {F : α → β → Prop} {a : α} : ∀ {l : List α} {r : List β}, Paired F (l ++ [a]) r → ∃ r' b, r = r' ++ [b] ∧ F a b
  | [], _, .cons h .nil => ⟨[], _, rfl, h⟩
  | _ :: l, _, .cons h t => by
    obtain ⟨r', b, e, hb⟩ := paired_snoc_inv t
    exact ⟨_ :: r', b, by rw [e]; rfl, hb⟩
theorem law_all {w : World} {p : Program} {loose : List Str} {mean : ExcName → Option Value} {mg mb : Str → Option Value} {dp un : Nat} {gd : Option (List Code)} {a : Addr} {ccd : Value} {A₀ : Around} {h₀ : Heap} {L : Addr} {s : Shared} {Q : Flow → Shared → Prop} {E : Value → Shared → Prop} {cs : Scope} {sa : Addr} {vs0 : List Value} {ns : List Int} {st0 st1 st2 st3 st4 st5 st6 st7 st8 st9 st10 st11 st12 st13 st14 st15 st16 st17 : Stmt}
  (B : Below A₀ h₀ [] h₀) (F : Fr h₀ L s.heap (lk [(Str.ofString "script", .ref sa)])) (X : (hd.heap_39 w.params).In h₀) (N : News h₀ L s.heap ([(47, tabObj #[])])) (T : Top p loose mean mg mb h₀) (hp : lawSeg 0 18 w.params = some ([st0, st1, st2, st3, st4, st5, st6, st7, st8, st9, st10, st11, st12, st13, st14, st15, st16, st17], cs))
  (hdp : dp + 100 < recursionLimit) (hu : un + 9000 < cLine) (hE : PassesOwn (model PySem.Challenge.rw_xi0006_01.row.prog w) (ktrTop dp un gd (Str.ofString "law") cs L a ccd [] []) (envX (Str.ofString "law") cs L a ccd []) E) (hC : CodeHd h₀ 51 47) (hS : h₀.IsList sa vs0.toArray) (hi : IntsAre vs0 ns) (hz : ns.length ≤ 63) (l0 : 47 < L)
  (hpl : ∀ m d0 d1 d2, m ∈ [9, 10, 11, 12, 13, 32] → d0 < 2 ^ 110 → d1 < 2 ^ 110 → d2 < 2 ^ 110 → ReplyOk m d0 d1 d2 ∧ EndOk m d0 d1 d2) (hq9 : r229 (Str.ofString "229 212)") = some .proto)
  (hret : ∀ tab h' tk' m', Tab tab → Fr h₀ L h' m' → News h₀ L h' tab → Q (.ret (.bool true)) { s with heap := h', toks := tk' }) :
  wpAny (model PySem.Challenge.rw_xi0006_01.row.prog w) (ktrTop dp un gd (Str.ofString "law") cs L a ccd [] []) (execs [st0, st1, st2, st3, st4, st5, st6, st7, st8, st9, st10, st11, st12, st13, st14, st15, st16, st17] (envX (Str.ofString "law") cs L a ccd [])) Q E s := by
  refine' use_parts hp (y := ([?sta0, ?sta1, ?sta2, ?sta3, ?sta4, ?sta5, ?sta6, ?sta7, ?sta8, ?sta9, ?sta10, ?sta11, ?sta12, ?sta13, ?sta14, ?sta15, ?sta16, ?sta17], Scope.mk ?sc1 ?sc2 ?sc3 ?sc4 ?sc5)) ?e ?_
  case e => k_dflt (unfold lawSeg lawParts; rfl)
  intro e9
  cases e9
  refine execs_app (l := [_, _, _, _, _, _]) (r := [_, _, _, _, _, _, _, _, _, _, _, _]) ?_
  k_dflt (refine' law_a B F X N T ?hp0 hdp hu hC hS hi hz l0 ?_)
  case hp0 => k_dflt (unfold lawSeg lawParts; rfl)
  intro b un0 sh d t1 t2 t3 t4 r h1 tk1 m1 hb hu1 hu2 h47 hd1 hd2 F1 N1
  refine execs_app (l := [_]) (r := [_, _, _, _, _, _, _, _, _, _, _]) ?_
  k_dflt (refine' law_b B F1 X N1 T ?hp1 hdp hu hE hC .fresh h47 ?hrt1 ⟨hd1, hd2⟩ ⟨hu1, hu2⟩ hb ?_)
  case hp1 => k_dflt (unfold lawSeg lawParts; rfl)
  case hrt1 => exact List.forall_mem_cons.mpr ⟨Nat.ne_of_lt h47, fun _ h => nomatch h⟩
  intro tab v1 v2 t5 t6 t7 k2 h2 tk2 m2 hv1 hv2 hT2 hr2 F2 N2
  have F2' := fr_ub F2 (l := [(Str.ofString "ring", .ref r), (Str.ofString "dress", .int d t4)]) (by (repeat' (first | exact lkup0 | refine lkupc ?_ ?_)) <;> rfl)
  obtain ⟨R, hR⟩ : ∃ R, R = rings 20 (0, v1, v2) := ⟨_, rfl⟩
  obtain ⟨g1, g2, a, Rt, Ri, z0, g, hRa, hRz, heu, hsl⟩ := game_end hv1 hv2 ⟨hu1, hu2⟩ hR
  refine execs_app (l := [_, _]) (r := [_, _, _, _, _, _, _, _, _]) ?_
  k_dflt (refine' law_c B F2' X N2 T ?hp2 hdp hu hE hC hT2 (Ne.symm (Nat.ne_of_lt h47)) hr2 ⟨hd1, hd2⟩ ⟨hu1, hu2⟩ hR ?hpl2 g1 g2 ?_)
  case hp2 => k_dflt (unfold lawSeg lawParts; rfl)
  case hpl2 => exact fun z hz m hm => (hpl m _ _ _ hm (small_mul (g1 z hz).1 ⟨hu1, hu2⟩) (small_mul (g1 z hz).2.1 ⟨hu1, hu2⟩) (small_mul (g1 z hz).2.2 ⟨hu1, hu2⟩)).1
  intro mk z tab3 els lv vs fl wl ls k3 t5 t6 t7 t8 t12 t13 h3 tk3 m3 hmk hzl hT3 hP3 hPv F3 N3
  have hzR := g1 z (List.mem_of_getLast? hzl)
  have b0 := small_mul hzR.1 ⟨hu1, hu2⟩
  have b1 := small_mul hzR.2.1 ⟨hu1, hu2⟩
  have b2 := small_mul hzR.2.2 ⟨hu1, hu2⟩
  obtain ⟨e1, e2, e3, e4, e5, e6, e7, e8, e9, e10, e11, e12, e13, e14⟩ := (hpl mk _ _ _ hmk b0 b1 b2).2
  have hvl : vs.length = (flg (z.1 * un0.toNat) (z.2.1 * un0.toNat) (z.2.2 * un0.toNat)).length := paired_len hPv
  have hv5 : vs.length ≤ 5 := by
    rw [hvl]
    exact Nat.le_trans (List.length_filter_le _ _) (by simp)
  have hvn : vs ≠ [] := by
    intro h
    rw [h] at hvl
    exact flg_ne (List.length_eq_zero_iff.mp hvl.symm)
  refine execs_app (l := [_]) (r := [_, _, _, _, _, _, _, _]) ?_
  k_dflt (refine' law_d1 B F3 X N3 T ?hp3 hdp hu hPv e1 e2 e3 e4 ?_)
  case hp3 => k_dflt (unfold lawSeg lawParts; rfl)
  intro h4 tk4 m4 F4 N4
  refine execs_app (l := [_, _]) (r := [_, _, _, _, _, _]) ?_
  k_dflt (refine' law_d2 B F4 X N4 T ?hp4 hdp hu e5 ?_)
  case hp4 => k_dflt (unfold lawSeg lawParts; rfl)
  intro t10 t11 h5 tk5 m5 F5 N5
  refine execs_app (l := [_]) (r := [_, _, _, _, _]) ?_
  k_dflt (refine' law_d4 B F5 X N5 T ?hp5 hdp hu hE hPv hvn hv5 e6 e7 e8 e9 ?_)
  case hp5 => k_dflt (unfold lawSeg lawParts; rfl)
  intro h6 tk6 m6 F6 N6
  have F6' := fr_ub F6 (l := [(Str.ofString "words", .ref wl), (Str.ofString "far", .int (((z.2.2 * un0.toNat) : Nat) : Int) t5), (Str.ofString "mark", .str ⟨#[mk]⟩ t6), (Str.ofString "reply", .str (replyT mk (z.1 * un0.toNat) (z.2.1 * un0.toNat) (z.2.2 * un0.toNat)) t8), (Str.ofString "lists", .ref ls)]) (by (repeat' (first | exact lkup0 | refine lkupc ?_ ?_)) <;> rfl)
  have N6' := news_sub N6 (sub_cons (.tail _ (.tail _ (.head _))) (sub_cons (.tail _ (.head _)) (sub_skip (sub_skip (sub_skip sub_refl)))))
  refine execs_app (l := [_]) (r := [_, _, _, _]) ?_
  k_dflt (refine' law_d5 B F6' X N6' T ?hp6 hdp hu (apl_len b1) b2 ?_)
  case hp6 => k_dflt (unfold lawSeg lawParts; rfl)
  intro t9 h7 tk7 m7 hfl F7 N7
  refine execs_app (l := [_]) (r := [_, _, _]) ?_
  k_dflt (refine' law_d6 (wl := 0) (d2 := 0) (w0 := []) (w1 := []) (t12 := 0) (t13 := 0) B F7 X N7 T ?hp7 hdp hu hfl e10 hq9 ?_)
  case hp7 => k_dflt (unfold lawSeg lawParts; rfl)
  intro h8 tk8 m8 F8 N8
  refine execs_app (l := [_]) (r := [_, _]) ?_
  k_dflt (refine' law_d8 B F8 X N8 T ?hp8 hdp hu hE (Nat.le_of_lt e2) e11 e12 e13 e14 ?_)
  case hp8 => k_dflt (unfold lawSeg lawParts; rfl)
  intro h9 tk9 m9 F9 N9
  obtain ⟨as, ha1, ha2⟩ := firsts hP3
  have hlen : lv.length ≤ 20 := by rw [paired_len hP3, hR]; exact rings_len 20 _
  obtain ⟨lv0, s0, ta, tb, tc, c0, hx0, m0⟩ : ∃ lv0 s0 ta tb tc c0, lv = Value.ref s0 :: lv0 ∧ (s0, listOf #[.int (((srt a).1 : Int) * un0) ta, .int (((srt a).2.1 : Int) * un0) tb, .int (((srt a).2.2 : Int) * un0) tc] c0) ∈ els := by
    have hP4 := hP3
    rw [hRa] at hP4
    cases hP4 with
    | cons h r =>
      obtain ⟨s, q1, q2, q3, k, rfl, hm⟩ := el_three h rfl
      exact ⟨_, s, q1, q2, q3, k, rfl, hm⟩
  obtain ⟨lvi, sz, td, te, tf, cz, hxl, mz⟩ : ∃ lvi sz td te tf cz, lv = lvi ++ [Value.ref sz] ∧ (sz, listOf #[.int 0 td, .int g te, .int g tf] cz) ∈ els := by
    have hP4 := hP3
    rw [hRz] at hP4
    obtain ⟨r', b', e, hb'⟩ := paired_snoc_inv hP4
    obtain ⟨s, q1, q2, q3, k, rfl, hm⟩ := el_three hb' hsl
    exact ⟨r', s, q1, q2, q3, k, e, hm⟩
  have haR := srt_le (g1 a (by rw [hRa]; exact .head _))
  have w1 := bnd20 haR.1 ⟨hu1, hu2⟩
  have w2 := bnd20 haR.2 ⟨hu1, hu2⟩
  k_dflt (refine' law_d9 B F9 X N9 T ?hp9 hdp hu hx0 (List.mem_append_right _ m0) hxl (List.mem_append_right _ mz) hlen w1.1 w1.2 w2.1 w2.2 heu ha1 (paired_mono3 ha2 (fun p hp => List.mem_append_right _ hp)) ?_)
  case hp9 => k_dflt (unfold lawSeg lawParts; rfl)
  intro h10 tk10 m10 F10 N10
  exact hret tab3 h10 tk10 m10 hT3 F10 (news_sub N10 sub_l)
end Mine
end
end
end
theorem Mine.walk_off_TF : True := by
  w_top off
  exact True.intro
section
open PySem PySem.W PyProof.Rows
set_option maxRecDepth 100000
namespace Mine
noncomputable def pat : List Nat := [70, 76, 65, 71, 83, 32, 40]
section
variable {T : Array Nat}
theorem getD_of {i c : Nat} (h : T.toList[i]? = some c) : i < T.size ∧ T.getD i 0 = c := by
  obtain ⟨h1, h2⟩ := List.getElem?_eq_some_iff.mp h
  have h1' : i < T.size := by simpa using h1
  refine ⟨h1', ?_⟩
  rw [Array.getD_eq_getD_getElem?, ← Array.getElem?_toList, h]; rfl
theorem of_getD {i c : Nat} (h1 : i < T.size) (h : T.getD i 0 = c) : T.toList[i]? = some c := by
  rw [Array.getD_eq_getD_getElem?, ← Array.getElem?_toList] at h
  rw [List.getElem?_eq_getElem (by simpa using h1)] at h ⊢
  simpa using h
theorem okL_at {A r : List Nat} (e : T.toList = A ++ (pat ++ r)) : okL T A.length := by
  intro i hi
  have h : T.toList[A.length + i]? = some (lit i) := by
    rw [e, List.getElem?_append_right (by omega), Nat.add_sub_cancel_left, List.getElem?_append_left (by show i < 7; exact hi)]
    have : i = 0 ∨ i = 1 ∨ i = 2 ∨ i = 3 ∨ i = 4 ∨ i = 5 ∨ i = 6 := by omega
    rcases this with rfl | rfl | rfl | rfl | rfl | rfl | rfl <;> rfl
  exact getD_of h
theorem okL_40 {b : Nat} (h : okL T b) : T.toList[b + 6]? = some 40 := by
  obtain ⟨h1, h2⟩ := h 6 (by decide)
  exact of_getD h1 h2
theorem upTo_ge {A r : List Nat} (e : T.toList = A ++ r) (h : 10 ∉ A) : A.length ≤ upTo (· != 10) T T.size 0 := by
  have hs : T.size = A.length + r.length := by
    have := congrArg List.length e
    simpa using this
  apply Decidable.byContradiction
  intro hlt
  have us := upTo_spec (T := T) (· != 10) T.size 0
  have h3 := us.2.2 (by omega)
  rw [Nat.zero_add] at h3
  have h4 : T.getD (upTo (· != 10) T T.size 0) 0 = 10 := by simpa using h3
  have h5 := of_getD (by omega) h4
  rw [e, List.getElem?_append_left (by omega)] at h5
  exact h (List.mem_of_getElem? h5)
/-- behind a place with an opening sign no closing one: nothing is found there -/
theorem no_okM {A : List Nat} {r : List Nat} (e : T.toList = A ++ r) (h : ∀ r0 r1, r = r0 ++ 40 :: r1 → 41 ∉ r1) {b : Nat} (hb : A.length ≤ b + 6) : ¬ okM T b := by
  rintro ⟨h1, q, h2, h3, h4⟩
  have h5 := okL_40 h1
  rw [e, List.getElem?_append_right hb] at h5
  obtain ⟨h6, h7⟩ := List.getElem?_eq_some_iff.mp h5
  have e2 : r = r.take (b + 6 - A.length) ++ 40 :: r.drop (b + 6 - A.length + 1) := by
    rw [← h7, List.getElem_cons_drop, List.take_append_drop]
  have h8 := of_getD h3 h4
  rw [e, List.getElem?_append_right (by omega)] at h8
  refine h _ _ e2 ?_
  have h9 : (r.drop (b + 6 - A.length + 1))[q - (b + 7)]? = some 41 := by
    rw [List.getElem?_drop, ← h8]
    congr 1
    omega
  exact List.mem_of_getElem? h9
theorem found_some {A M R : List Nat} (e : T.toList = A ++ (pat ++ (M ++ 41 :: R))) (hA : 10 ∉ A) (hM : 41 ∉ M) (hM2 : 40 ∉ M) (hR : ∀ r0 r1, R = r0 ++ 40 :: r1 → 41 ∉ r1) : Found T (some (A.length, A.length + 7 + M.length)) := by
  have hs : T.size = A.length + 7 + M.length + 1 + R.length := by
    have := congrArg List.length e
    simp [pat] at this
    omega
  refine ⟨upTo_ge e hA, okL_at e, by omega, by omega, ?_, ?_, ?_⟩
  · refine (getD_of ?_).2
    rw [e, List.getElem?_append_right (by omega), List.getElem?_append_right (by simp [pat]; omega), List.getElem?_append_right (by simp [pat]; omega)]
    have : A.length + 7 + M.length - A.length - pat.length - M.length = 0 := by simp [pat]; omega
    rw [this]; rfl
  · intro i h1 h2 h3
    have h4 := of_getD (T := T) (by omega) h3
    rw [e, List.getElem?_append_right (by omega), List.getElem?_append_right (by simp [pat]; omega), List.getElem?_append_left (by simp [pat]; omega)] at h4
    exact hM (List.mem_of_getElem? h4)
  · intro b h1 h2
    have e2 : T.toList = (A ++ pat) ++ (M ++ 41 :: R) := by rw [e]; simp
    refine no_okM (A := A ++ pat) e2 ?_ (by simp [pat]; omega)
    intro r0 r1 he
    rcases List.append_eq_append_iff.mp he with ⟨c, h3, h4⟩ | ⟨c, h3, h4⟩
    · cases c with
      | nil => simp at h4
      | cons x c =>
        simp only [List.cons_append, List.cons.injEq] at h4
        exact hR c r1 h4.2
    · cases c with
      | nil => simp at h4
      | cons x c =>
        simp only [List.cons_append, List.cons.injEq] at h4
        exact absurd (by rw [h3, ← h4.1]; simp) hM2
theorem found_none {r : List Nat} (e : T.toList = r) (h : ∀ r0 r1, r = r0 ++ 40 :: r1 → 41 ∉ r1) : Found T none := fun b _ => no_okM (A := []) (by simpa using e) h (Nat.zero_le _)
theorem found_nl {r : List Nat} (e : T.toList = 10 :: r) : Found T none := by
  intro b hb
  have us := upTo_spec (T := T) (· != 10) T.size 0
  have h0 : T.getD 0 0 = 10 := (getD_of (by rw [e]; rfl)).2
  have hb0 : b = 0 := by
    apply Decidable.byContradiction
    intro hne
    have := us.2.1 0 (by omega)
    rw [Nat.zero_add, h0] at this
    cases this
  subst hb0
  rintro ⟨h1, _⟩
  have := (h1 0 (by decide)).2
  rw [Nat.zero_add, h0] at this
  cases this
end
open Builtin.Bytes in
theorem words_space {f l : Nat} {c : UInt8} {t : List UInt8} (h : isSpace c = true) : words (f + 1) l (c :: t) = words (f + 1) l t := by
  unfold words
  rw [List.dropWhile_cons, if_pos h]
open Builtin.Bytes in
theorem words_nil {f l : Nat} : words (f + 1) l [] = [] := rfl
open Builtin.Bytes in
theorem words_word {f l : Nat} {w t : List UInt8} {c : UInt8} (hw : ∀ x ∈ w, isSpace x = false) (hne : w ≠ []) (hc : isSpace c = true) : words (f + 1) (l + 1) (w ++ c :: t) = w :: words f l (c :: t) := by
  obtain ⟨x, r, rfl⟩ : ∃ x r, w = x :: r := by
    cases w with
    | nil => exact absurd rfl hne
    | cons x r => exact ⟨x, r, rfl⟩
  have hd : ((x :: r) ++ c :: t).dropWhile isSpace = (x :: r) ++ c :: t := by
    rw [List.cons_append, List.dropWhile_cons, if_neg (by rw [hw x (.head _)]; exact Bool.false_ne_true)]
  have ht : ((x :: r) ++ c :: t).takeWhile (fun y => !isSpace y) = x :: r := by
    rw [List.takeWhile_append_of_pos (by intro y hy; rw [hw y hy]; rfl), List.takeWhile_cons, if_neg (by rw [hc]; decide), List.append_nil]
  have ht2 : ((x :: r) ++ c :: t).dropWhile (fun y => !isSpace y) = c :: t := by
    rw [List.dropWhile_append_of_pos (by intro y hy; rw [hw y hy]; rfl), List.dropWhile_cons, if_neg (by rw [hc]; decide)]
  rw [words, hd]
  show (if (l + 1 == 0) = true then _ else _ :: words f (l + 1 - 1) _) = _
  rw [if_neg (by simp), ht, ht2, Nat.add_sub_cancel]
end Mine
end
theorem Mine.walk_off_TG : True := by
  w_top off
  exact True.intro
section
open PySem PySem.W PyProof.Rows
set_option maxRecDepth 100000
namespace Mine
theorem tw_all {α : Type} {p : α → Bool} : ∀ {l : List α}, (∀ x ∈ l, p x = true) → l.takeWhile p = l
  | [], _ => rfl
  | x :: l, h => by rw [List.takeWhile_cons, if_pos (h x (.head _)), tw_all fun y hy => h y (.tail _ hy)]
theorem dw_all {α : Type} {p : α → Bool} : ∀ {l : List α}, (∀ x ∈ l, p x = true) → l.dropWhile p = []
  | [], _ => rfl
  | x :: l, h => by rw [List.dropWhile_cons, if_pos (h x (.head _)), dw_all fun y hy => h y (.tail _ hy)]
open Builtin.Bytes in
theorem words_last {f l : Nat} {w : List UInt8} (hw : ∀ x ∈ w, isSpace x = false) (hne : w ≠ []) : words (f + 1) (l + 1) w = [w] := by
  obtain ⟨x, r, rfl⟩ : ∃ x r, w = x :: r := by
    cases w with
    | nil => exact absurd rfl hne
    | cons x r => exact ⟨x, r, rfl⟩
  have hd : (x :: r).dropWhile isSpace = x :: r := by
    rw [List.dropWhile_cons, if_neg (by rw [hw x (.head _)]; exact Bool.false_ne_true)]
  have hall : ∀ y ∈ x :: r, (fun y => !isSpace y) y = true := by intro y hy; simp [hw y hy]
  have ht : (x :: r).takeWhile (fun y => !isSpace y) = x :: r := tw_all hall
  have ht2 : (x :: r).dropWhile (fun y => !isSpace y) = [] := dw_all hall
  rw [words, hd]
  show (if (l + 1 == 0) = true then _ else _ :: words f (l + 1 - 1) _) = _
  rw [if_neg (by simp), ht, ht2]
  cases f with
  | zero => rfl
  | succ f => rfl
/-- words, a white sign before each, and a last one -/
noncomputable def joinT (mb : UInt8) (last : List UInt8) : List (List UInt8) → List UInt8
  | [] => mb :: last
  | w :: ws => mb :: (w ++ joinT mb last ws)
open Builtin.Bytes in
theorem words_join {mb : UInt8} (hm : isSpace mb = true) {last : List UInt8} (hl : ∀ x ∈ last, isSpace x = false) : ∀ (ws : List (List UInt8)), (∀ w ∈ ws, ∀ x ∈ w, isSpace x = false) → ∀ (f l : Nat), ws.length < f → ws.length < l → words f l (joinT mb last ws) = (ws ++ [last]).filter (· ≠ [])
  | [], _, f, l, h1, h2 => by
    obtain ⟨f, rfl⟩ : ∃ f', f = f' + 1 := ⟨f - 1, by simp at h1; omega⟩
    obtain ⟨l, rfl⟩ : ∃ l', l = l' + 1 := ⟨l - 1, by simp at h2; omega⟩
    show words (f + 1) (l + 1) (mb :: last) = _
    rw [words_space hm]
    by_cases hn : last = []
    · subst hn; rw [words_nil]; rfl
    · rw [words_last hl hn]; simp [hn]
  | w :: ws, hw, f, l, h1, h2 => by
    obtain ⟨f, rfl⟩ : ∃ f', f = f' + 1 := ⟨f - 1, by simp at h1; omega⟩
    obtain ⟨l, rfl⟩ : ∃ l', l = l' + 1 := ⟨l - 1, by simp at h2; omega⟩
    simp only [List.length_cons] at h1 h2
    have ih := words_join hm hl ws (fun w h => hw w (.tail _ h))
    show words (f + 1) (l + 1) (mb :: (w ++ joinT mb last ws)) = _
    rw [words_space hm]
    by_cases hn : w = []
    · subst hn
      rw [List.nil_append, ih (f + 1) (l + 1) (by omega) (by omega)]
      simp
    · obtain ⟨t, ht⟩ : ∃ t, joinT mb last ws = mb :: t := by
        cases ws with
        | nil => exact ⟨_, rfl⟩
        | cons w ws => exact ⟨_, rfl⟩
      rw [ht, words_word (hw w (.head _)) hn hm, ← ht, ih f l (by omega) (by omega)]
      simp [hn]
noncomputable def patb : List UInt8 := [70, 76, 65, 71, 83, 32, 40]
theorem map_toArray (x : List UInt8) : (x.toArray.map (·.toNat)).toList = x.map (·.toNat) := by simp
theorem flags_some {x Ab Mb Rb : List UInt8} {g : List (List UInt8)} (e : x = Ab ++ (patb ++ (Mb ++ 41 :: Rb))) (hA : 10 ∉ Ab.map (·.toNat)) (hM : 41 ∉ Mb.map (·.toNat)) (hM2 : 40 ∉ Mb.map (·.toNat)) (hR : ∀ r0 r1, Rb.map (·.toNat) = r0 ++ 40 :: r1 → 41 ∉ r1)
    (hw : Builtin.Bytes.words (Mb.length + 1) (Mb.length + 1) Mb = g) (hs : Mb.any Builtin.Bytes.isSpace = true) (hl : x.length < 1000) (hg : ∀ y ∈ g, y.length ≤ 1000) (hg5 : g.length ≤ 5) : FlagsOk x g := by
  have eT : (x.toArray.map (·.toNat)).toList = Ab.map (·.toNat) ++ (pat ++ (Mb.map (·.toNat) ++ 41 :: Rb.map (·.toNat))) := by
    rw [map_toArray, e]
    simp [patb, pat]
  have hf := found_some eT hA hM hM2 hR
  have hex : x.toArray.extract (Ab.length + 7) (Ab.length + 7 + Mb.length) = Mb.toArray := by
    apply Array.ext'
    rw [List.extract_toArray]
    show List.extract x _ _ = Mb
    rw [List.extract_eq_take_drop, e]
    have e2 : Ab ++ (patb ++ (Mb ++ 41 :: Rb)) = (Ab ++ patb) ++ (Mb ++ 41 :: Rb) := by simp
    have e3 : Ab.length + 7 = (Ab ++ patb).length := by simp [patb]
    rw [e2, e3, List.drop_left]
    have e4 : (Ab ++ patb).length + Mb.length - (Ab ++ patb).length = Mb.length := by omega
    rw [e4, List.take_left]
  rw [List.length_map, List.length_map] at hf
  refine ⟨_, hf, ?_, ?_, ?_, hl, hg, hg5⟩
  · intro a q h
    cases h
    rw [hex]
    simpa using hs
  · show Builtin.Bytes.words ((x.toArray.extract (Ab.length + 7) (Ab.length + 7 + Mb.length)).size + 1) ((x.toArray.extract (Ab.length + 7) (Ab.length + 7 + Mb.length)).size + 1) (x.toArray.extract (Ab.length + 7) (Ab.length + 7 + Mb.length)).toList = g
    rw [hex]
    simpa using hw
  · rw [e]; simp [patb]; omega
theorem flags_none {x : List UInt8} (h : Found (x.toArray.map (·.toNat)) none) (h8 : 8 ≤ x.length) (hl : x.length < 1000) : FlagsOk x [] :=
  ⟨none, h, (fun _ _ e => nomatch e), rfl, h8, hl, (fun _ h => nomatch h), by decide⟩
/-- one opening sign alone: what stands behind it -/
theorem only40 {pre post : List Nat} (h : 40 ∉ pre) (h2 : 41 ∉ post) : ∀ r0 r1, pre ++ 40 :: post = r0 ++ 40 :: r1 → 41 ∉ r1 := by
  intro r0 r1 e
  rcases List.append_eq_append_iff.mp e with ⟨c, h3, h4⟩ | ⟨c, h3, h4⟩
  · cases c with
    | nil => simp only [List.nil_append, List.cons.injEq, true_and] at h4; rw [← h4]; exact h2
    | cons x c =>
      simp only [List.cons_append, List.cons.injEq] at h4
      intro h5
      exact h2 (by rw [h4.2]; exact List.mem_append_right _ (.tail _ h5))
  · cases c with
    | nil => simp only [List.nil_append, List.cons.injEq, true_and] at h4; rw [h4]; exact h2
    | cons x c =>
      simp only [List.cons_append, List.cons.injEq] at h4
      exact absurd (by rw [h3, ← h4.1]; simp) h
theorem octs_app (x y : Str) : octs (x ++ y) = octs x ++ octs y := by unfold octs; rw [Str.cps_append]; simp
theorem octs_txt (w : List UInt8) : octs (txt w) = w := by
  unfold octs txt
  simp [Function.comp_def]
theorem octs_one (m : Nat) : octs ⟨#[m]⟩ = [UInt8.ofNat m] := rfl
section
variable {m d0 d1 d2 : Nat}
noncomputable abbrev mB (m : Nat) : UInt8 := UInt8.ofNat m
theorem octs_body (last : List UInt8) : octs (bodyT m d0 d1 d2) ++ last = joinT (mB m) last [apl d0, apl d1, octs (nt d2)] := by
  unfold bodyT
  simp only [octs_app, octs_txt, octs_one]
  simp [joinT]
theorem white (hm : m ∈ [9, 10, 11, 12, 13, 32]) : Builtin.Bytes.isSpace (mB m) = true ∧ (mB m).toNat = m ∧ m < 40 := by
  simp only [List.mem_cons, List.not_mem_nil, or_false] at hm
  rcases hm with rfl | rfl | rfl | rfl | rfl | rfl <;> decide
theorem sp_of {x : UInt8} (h : 48 ≤ x.toNat ∧ x.toNat < 128) : Builtin.Bytes.isSpace x = false := by
  unfold Builtin.Bytes.isSpace
  have e1 : (x == 32) = false := by
    rw [beq_eq_false_iff_ne]; intro e; subst e; exact absurd h.1 (by decide)
  have e2 : decide (x ≤ 13) = false := by
    refine decide_eq_false fun hle => ?_
    have := UInt8.le_iff_toNat_le.mp hle
    have e3 : (13 : UInt8).toNat = 13 := rfl
    omega
  rw [e1, e2]; simp
theorem dig_rng (n : Nat) : ∀ x ∈ octs (nt n), 48 ≤ x.toNat ∧ x.toNat < 58 := by
  intro x hx
  obtain ⟨c, hc, rfl⟩ := List.mem_map.mp hx
  have := nt_dig n c hc
  rw [UInt8.toNat_ofNat']
  omega
theorem words_ok (d0 d1 d2 : Nat) : ∀ w ∈ [apl d0, apl d1, octs (nt d2)], ∀ x ∈ w, Builtin.Bytes.isSpace x = false := by
  intro w hw x hx
  simp only [List.mem_cons, List.not_mem_nil, or_false] at hw
  rcases hw with rfl | rfl | rfl
  · have := apl_rng _ x hx; exact sp_of (by omega)
  · have := apl_rng _ x hx; exact sp_of (by omega)
  · have := dig_rng _ x hx; exact sp_of (by omega)
theorem join_nums (hm : m ∈ [9, 10, 11, 12, 13, 32]) {last : List UInt8} (hl : ∀ x ∈ last, 41 < x.toNat) : ∀ x ∈ joinT (mB m) last [apl d0, apl d1, octs (nt d2)], x.toNat ≠ 40 ∧ x.toNat ≠ 41 := by
  have hw := white hm
  intro x hx
  simp only [joinT, List.mem_cons, List.mem_append] at hx
  rcases hx with rfl | hx | rfl | hx | rfl | hx | rfl | hx
  · omega
  · have := apl_rng _ x hx; omega
  · omega
  · have := apl_rng _ x hx; omega
  · omega
  · have := dig_rng _ x hx; omega
  · omega
  · have := hl x hx; omega
theorem join_len {last : List UInt8} (h0 : d0 < 2 ^ 110) (h1 : d1 < 2 ^ 110) (h2 : d2 < 2 ^ 110) : 4 ≤ (joinT (mB m) last [apl d0, apl d1, octs (nt d2)]).length ∧ (joinT (mB m) last [apl d0, apl d1, octs (nt d2)]).length ≤ 100 + last.length := by
  have a := apl_len h0
  have b := apl_len h1
  have c : (octs (nt d2)).length ≤ 40 := by rw [octs_len]; exact nt_len h2
  simp only [joinT, List.length_cons, List.length_append]
  omega
theorem no_num {l : List UInt8} {k : Nat} (h : ∀ x ∈ l, x.toNat ≠ k) : k ∉ l.map (·.toNat) := by
  intro hm
  obtain ⟨x, hx, e⟩ := List.mem_map.mp hm
  exact h x hx e
theorem flg_small (h0 : d0 < 2 ^ 110) (h1 : d1 < 2 ^ 110) (h2 : d2 < 2 ^ 110) : (∀ y ∈ flg d0 d1 d2, y.length ≤ 1000) ∧ (flg d0 d1 d2).length ≤ 3 := by
  constructor
  · intro y hy
    have := (List.mem_filter.mp hy).1
    simp only [List.mem_cons, List.not_mem_nil, or_false] at this
    rcases this with rfl | rfl | rfl
    · have := apl_len h0; omega
    · have := apl_len h1; omega
    · rw [octs_len]; have := nt_size2 h2; have k := nt_len h2; show (nt d2).length ≤ 1000; omega
  · exact List.length_filter_le _ _
noncomputable def restB : List UInt8 := [32, 58, 41, 32, 70, 76, 65, 71, 83, 32, 40, 66]
theorem rest40 : ∀ r0 r1, restB.map (·.toNat) = r0 ++ 40 :: r1 → 41 ∉ r1 := only40 (pre := [32, 58, 41, 32, 70, 76, 65, 71, 83, 32]) (post := [66]) (by decide) (by decide)
theorem octs_reply : octs (replyT m d0 d1 d2) = [50, 50, 57, 32, 58, 41, 32] ++ (patb ++ (joinT (mB m) [] [apl d0, apl d1, octs (nt d2)] ++ 41 :: restB)) := by
  unfold replyT
  rw [octs_app, octs_app]
  have e1 : octs (Str.ofString "229 :) FLAGS (") = [50, 50, 57, 32, 58, 41, 32] ++ patb := by decide +kernel
  have e2 : octs (Str.ofString ") :) FLAGS (B") = 41 :: restB := by decide +kernel
  have e3 := octs_body (m := m) (d0 := d0) (d1 := d1) (d2 := d2) []
  rw [List.append_nil] at e3
  rw [e1, e2, e3]
  simp
theorem fl_main (hm : m ∈ [9, 10, 11, 12, 13, 32]) (h0 : d0 < 2 ^ 110) (h1 : d1 < 2 ^ 110) (h2 : d2 < 2 ^ 110) {x Ab Rb last : List UInt8} {ws : List (List UInt8)} {g : List (List UInt8)} (hws : ws = [apl d0, apl d1, octs (nt d2)] ∨ ws = [] :: [apl d0, apl d1, octs (nt d2)]) (e : x = Ab ++ (patb ++ (joinT (mB m) last ws ++ 41 :: Rb))) (hA : 10 ∉ Ab.map (·.toNat)) (hl : ∀ y ∈ last, 48 ≤ y.toNat ∧ y.toNat < 128) (hll : last.length ≤ 1)
    (hR : ∀ r0 r1, Rb.map (·.toNat) = r0 ++ 40 :: r1 → 41 ∉ r1) (hAl : Ab.length ≤ 100) (hRl : Rb.length ≤ 100) (hg : g = (ws ++ [last]).filter (· ≠ [])) (hg1 : ∀ y ∈ g, y.length ≤ 1000) (hg5 : g.length ≤ 5) : FlagsOk x g := by
  have hw := white hm
  have hk : ∀ y ∈ joinT (mB m) last ws, y.toNat ≠ 40 ∧ y.toNat ≠ 41 := by
    have k := join_nums (d0 := d0) (d1 := d1) (d2 := d2) hm (last := last) (fun y hy => by have := hl y hy; omega)
    rcases hws with rfl | rfl
    · exact k
    · intro y hy
      rcases List.mem_cons.mp hy with rfl | hy
      · omega
      · exact k y hy
  have hlen : 4 ≤ (joinT (mB m) last ws).length ∧ (joinT (mB m) last ws).length ≤ 102 := by
    have k := join_len (m := m) (last := last) h0 h1 h2
    rcases hws with rfl | rfl
    · omega
    · have e9 : (joinT (mB m) last ([] :: [apl d0, apl d1, octs (nt d2)])).length = (joinT (mB m) last [apl d0, apl d1, octs (nt d2)]).length + 1 := rfl
      omega
  have hwl : ws.length ≤ 4 := by rcases hws with rfl | rfl <;> simp
  have hwlen : ws.length < (joinT (mB m) last ws).length + 1 := by omega
  refine flags_some e hA (no_num fun y hy => (hk y hy).2) (no_num fun y hy => (hk y hy).1) hR ?_ ?_ ?_ hg1 hg5
  · rw [words_join hw.1 (fun y hy => sp_of (by have := hl y hy; omega)) ws ?_ _ _ hwlen hwlen, hg]
    rcases hws with rfl | rfl
    · exact words_ok d0 d1 d2
    · intro w hw' y hy
      rcases List.mem_cons.mp hw' with rfl | h
      · cases hy
      · exact words_ok d0 d1 d2 w h y hy
  · have : ∃ t, joinT (mB m) last ws = mB m :: t := by rcases hws with rfl | rfl <;> exact ⟨_, rfl⟩
    obtain ⟨t, ht⟩ := this
    rw [ht, List.any_cons, hw.1]; rfl
  · rw [e]
    simp only [List.length_append, List.length_cons, patb, List.length_nil]
    omega
end
end Mine
end
theorem Mine.walk_off_TH : True := by
  w_top off
  exact True.intro
section
open PySem PySem.W PyProof.Rows
set_option maxRecDepth 100000
namespace Mine
section
variable {m d0 d1 d2 : Nat}
noncomputable abbrev letN (d : Nat) : List Nat := (apl d).map (·.toNat)
noncomputable abbrev bodyL (m d0 d1 d2 : Nat) : List Nat := m :: (letN d0 ++ m :: (letN d1 ++ m :: ((nt d2).cps.toList ++ [m])))
theorem txt_codes (w : List UInt8) : (txt w).cps.toList = w.map (·.toNat) := by unfold txt; simp
theorem body_codes : (bodyT m d0 d1 d2).cps.toList = bodyL m d0 d1 d2 := by
  unfold bodyT
  simp only [Str.cps_append, Array.toList_append, txt_codes]
  simp
theorem c229 : (Str.ofString "229 :) FLAGS (").cps.toList = [50, 50, 57, 32, 58, 41, 32, 70, 76, 65, 71, 83, 32, 40] := by decide +kernel
theorem cEnd : (Str.ofString ") :) FLAGS (B").cps.toList = [41, 32, 58, 41, 32, 70, 76, 65, 71, 83, 32, 40, 66] := by decide +kernel
theorem cB : (Str.ofString "B").cps.toList = [66] := by decide +kernel
theorem cP : (Str.ofString ")").cps.toList = [41] := by decide +kernel
noncomputable abbrev hdA : List Nat := [32, 58, 41, 32, 70, 76, 65, 71, 83, 32]
noncomputable abbrev restN : List Nat := [32, 58, 41, 32, 70, 76, 65, 71, 83, 32, 40, 66]
theorem reply_codes : (replyT m d0 d1 d2).cps.toList = [50, 50, 57] ++ (hdA ++ 40 :: (bodyL m d0 d1 d2 ++ 41 :: restN)) := by
  unfold replyT
  simp only [Str.cps_append, Array.toList_append, c229, cEnd, body_codes]
  simp
theorem more_codes : (moreT m (bodyT m d0 d1 d2)).cps.toList = [50, 50, 57] ++ (hdA ++ 40 :: ((m :: bodyL m d0 d1 d2) ++ 41 :: restN)) := by
  unfold moreT
  simp only [Str.cps_append, Array.toList_append, c229, cEnd, body_codes]
  simp
theorem less_codes : (lessT (bodyT m d0 d1 d2)).cps.toList = [50, 50, 57] ++ (hdA ++ 40 :: (bodyL m d0 d1 d2 ++ [66])) := by
  unfold lessT
  simp only [Str.cps_append, Array.toList_append, c229, cB, body_codes]
  simp
theorem less2_codes : (lessT (bodyT m d0 d1 d2) ++ Str.ofString ")").cps.toList = [50, 50, 57] ++ (hdA ++ 40 :: ((bodyL m d0 d1 d2 ++ [66]) ++ 41 :: [])) := by
  rw [Str.cps_append, Array.toList_append, less_codes, cP]
  simp
theorem few_codes : (fewT m (apl d1) d2).cps.toList = [50, 50, 57] ++ (hdA ++ 40 :: ((m :: (letN d1 ++ m :: ((nt d2).cps.toList ++ [m]))) ++ 41 :: [])) := by
  unfold fewT
  simp only [Str.cps_append, Array.toList_append, c229, cP, txt_codes]
  simp
theorem let_rng {d c : Nat} (h : c ∈ letN d) : 65 ≤ c ∧ c < 81 := by
  obtain ⟨x, hx, rfl⟩ := List.mem_map.mp h
  exact apl_rng d x hx
theorem dig_rng2 {d c : Nat} (h : c ∈ (nt d).cps.toList) : 48 ≤ c ∧ c < 58 := by
  have := nt_dig d c h
  omega
theorem body_rng (hm : m ∈ [9, 10, 11, 12, 13, 32]) {c : Nat} (h : c ∈ bodyL m d0 d1 d2) : c = m ∨ (48 ≤ c ∧ c < 58) ∨ (65 ≤ c ∧ c < 81) := by
  simp only [List.mem_cons, List.mem_append, List.not_mem_nil, or_false] at h
  rcases h with h | h | h | h | h | h | h
  · exact .inl h
  · exact .inr (.inr (let_rng h))
  · exact .inl h
  · exact .inr (.inr (let_rng h))
  · exact .inl h
  · exact .inr (.inl (dig_rng2 h))
  · exact .inl h
theorem body_no (hm : m ∈ [9, 10, 11, 12, 13, 32]) {k : Nat} (h1 : k = 40 ∨ k = 41) : k ∉ bodyL m d0 d1 d2 := by
  intro h
  have := (white hm).2.2
  have := body_rng hm h
  omega
theorem body_len (h0 : d0 < 2 ^ 110) (h1 : d1 < 2 ^ 110) (h2 : d2 < 2 ^ 110) : (bodyL m d0 d1 d2).length ≤ 100 := by
  have a := apl_len h0
  have b := apl_len h1
  have c := nt_size h2
  simp only [List.length_cons, List.length_append, List.length_map, List.length_nil]
  omega
theorem str_len (x : Str) : x.length = x.cps.toList.length := by simp [Str.length]
theorem m_no_let (hm : m ∈ [9, 10, 11, 12, 13, 32]) {d : Nat} : m ∉ (txt (apl d)).cps.toList := by
  rw [txt_codes]
  intro h
  have a := let_rng h
  have := (white hm).2.2
  omega
theorem m_no_dig (hm : m ∈ [9, 10, 11, 12, 13, 32]) {d : Nat} : m ∉ (nt d).cps.toList := by
  intro h
  have a := dig_rng2 h
  have := (white hm).2.2
  omega
theorem m_no_nil : m ∉ (Str.ofString "").cps.toList := by rw [cpsE]; simp
theorem nt_int (d2 : Nat) (h2 : d2 < 2 ^ 110) : PySem.intText? (nt d2) = some (d2 : Int) := by
  have := int_text_gen (x := nt d2) (sp := []) (sg := []) (ds := (nt d2).cps.toList) (by simp) (.inl rfl) (.inl rfl) (nt_dig d2) (nt_ne d2) (by have := nt_size h2; omega)
  rw [this, if_neg (by decide), nt_val]
theorem hd40 : 40 ∉ hdA := by decide
theorem reply_port (hm : m ∈ [9, 10, 11, 12, 13, 32]) (h2 : d2 < 2 ^ 110) : r229 (replyT m d0 d1 d2) = some (.port d2) := by
  have hM : bodyL m d0 d1 d2 = (m :: (letN d0 ++ m :: (letN d1 ++ m :: (nt d2).cps.toList))) ++ [m] := by simp
  refine r229_port (A := hdA) (M := bodyL m d0 d1 d2) (R := restN) (c := m) reply_codes hd40 (body_no hm (.inr rfl)) rfl (by rw [hM]; exact last_app _ _) (q0 := Str.ofString "") (q1 := txt (apl d0)) (q2 := txt (apl d1)) (q3 := nt d2) (q4 := Str.ofString "") ?_ ?_ (nt_int d2 h2) (Nat.le_trans (nt_len h2) (by decide))
  · intro q hq
    simp only [List.mem_cons, List.not_mem_nil, or_false] at hq
    rcases hq with rfl | rfl | rfl | rfl | rfl
    · exact m_no_nil
    · exact m_no_let hm
    · exact m_no_let hm
    · exact m_no_dig hm
    · exact m_no_nil
  · rw [join2, join2, join2, join2, join1, cpsE, txt_codes, txt_codes]
    simp
theorem more_proto (hm : m ∈ [9, 10, 11, 12, 13, 32]) : r229 (moreT m (bodyT m d0 d1 d2)) = some .proto := by
  have hM : m :: bodyL m d0 d1 d2 = (m :: m :: (letN d0 ++ m :: (letN d1 ++ m :: (nt d2).cps.toList))) ++ [m] := by simp
  have hw := (white hm).2.2
  refine r229_parts (A := hdA) (M := m :: bodyL m d0 d1 d2) (R := restN) (c := m) more_codes hd40 ?_ rfl (by rw [hM]; exact last_app _ _) (qs := [Str.ofString "", Str.ofString "", txt (apl d0), txt (apl d1), nt d2, Str.ofString ""]) (by simp) ?_ ?_ (by simp)
  · intro h
    rcases List.mem_cons.mp h with h | h
    · omega
    · exact body_no hm (.inr rfl) h
  · intro q hq
    simp only [List.mem_cons, List.not_mem_nil, or_false] at hq
    rcases hq with rfl | rfl | rfl | rfl | rfl | rfl
    · exact m_no_nil
    · exact m_no_nil
    · exact m_no_let hm
    · exact m_no_let hm
    · exact m_no_dig hm
    · exact m_no_nil
  · rw [join2, join2, join2, join2, join2, join1, cpsE, txt_codes, txt_codes]
    simp
theorem less_proto (hm : m ∈ [9, 10, 11, 12, 13, 32]) : r229 (lessT (bodyT m d0 d1 d2)) = some .proto := by
  refine r229_open (A := hdA) (M := bodyL m d0 d1 d2 ++ [66]) less_codes hd40 ?_
  intro h
  rcases List.mem_append.mp h with h | h
  · exact body_no hm (.inr rfl) h
  · exact absurd (List.mem_singleton.mp h) (by decide)
theorem less2_proto (hm : m ∈ [9, 10, 11, 12, 13, 32]) : r229 (lessT (bodyT m d0 d1 d2) ++ Str.ofString ")") = some .proto := by
  have hw := (white hm).2.2
  refine r229_ends (A := hdA) (M := bodyL m d0 d1 d2 ++ [66]) (R := []) (c := m) (d := 66) less2_codes hd40 ?_ rfl (last_app _ _) (by omega)
  intro h
  rcases List.mem_append.mp h with h | h
  · exact body_no hm (.inr rfl) h
  · exact absurd (List.mem_singleton.mp h) (by decide)
theorem few_proto (hm : m ∈ [9, 10, 11, 12, 13, 32]) : r229 (fewT m (apl d1) d2) = some .proto := by
  have hM : m :: (letN d1 ++ m :: ((nt d2).cps.toList ++ [m])) = (m :: (letN d1 ++ m :: (nt d2).cps.toList)) ++ [m] := by simp
  have hw := (white hm).2.2
  refine r229_parts (A := hdA) (M := m :: (letN d1 ++ m :: ((nt d2).cps.toList ++ [m]))) (R := []) (c := m) few_codes hd40 ?_ rfl (by rw [hM]; exact last_app _ _) (qs := [Str.ofString "", txt (apl d1), nt d2, Str.ofString ""]) (by simp) ?_ ?_ (by simp)
  · intro h
    simp only [List.mem_cons, List.mem_append, List.not_mem_nil, or_false] at h
    rcases h with h | h | h | h | h
    · omega
    · have := let_rng h; omega
    · omega
    · have := dig_rng2 h; omega
    · omega
  · intro q hq
    simp only [List.mem_cons, List.not_mem_nil, or_false] at hq
    rcases hq with rfl | rfl | rfl | rfl
    · exact m_no_nil
    · exact m_no_let hm
    · exact m_no_dig hm
    · exact m_no_nil
  · rw [join2, join2, join2, join1, cpsE, txt_codes]
    simp
theorem small_app {A M R : List Nat} (hm : m ∈ [9, 10, 11, 12, 13, 32]) (hA : ∀ c ∈ A, c < 256) (hM : ∀ c ∈ M, c ∈ bodyL m d0 d1 d2) (hR : ∀ c ∈ R, c < 256) : ∀ c ∈ A ++ (M ++ R), c < 256 := by
  have hw := (white hm).2.2
  intro c hc
  rcases List.mem_append.mp hc with h | h
  · exact hA c h
  rcases List.mem_append.mp h with h | h
  · have := body_rng hm (hM c h); omega
  · exact hR c h
theorem reply_256 (hm : m ∈ [9, 10, 11, 12, 13, 32]) : ∀ c ∈ (replyT m d0 d1 d2).cps.toList, c < 256 := by
  rw [reply_codes, show [50, 50, 57] ++ (hdA ++ 40 :: (bodyL m d0 d1 d2 ++ 41 :: restN)) = ([50, 50, 57] ++ hdA ++ [40]) ++ (bodyL m d0 d1 d2 ++ 41 :: restN) by simp]
  exact small_app hm (by decide) (fun _ h => h) (by decide)
theorem more_256 (hm : m ∈ [9, 10, 11, 12, 13, 32]) : ∀ c ∈ (moreT m (bodyT m d0 d1 d2)).cps.toList, c < 256 := by
  rw [more_codes, show [50, 50, 57] ++ (hdA ++ 40 :: ((m :: bodyL m d0 d1 d2) ++ 41 :: restN)) = ([50, 50, 57] ++ hdA ++ [40]) ++ ((m :: bodyL m d0 d1 d2) ++ 41 :: restN) by simp]
  exact small_app (d0 := d0) (d1 := d1) (d2 := d2) hm (by decide) (fun c h => by rcases List.mem_cons.mp h with rfl | h; exact .head _; exact h) (by decide)
theorem less_256 (hm : m ∈ [9, 10, 11, 12, 13, 32]) : ∀ c ∈ (lessT (bodyT m d0 d1 d2)).cps.toList, c < 256 := by
  rw [less_codes, show [50, 50, 57] ++ (hdA ++ 40 :: (bodyL m d0 d1 d2 ++ [66])) = ([50, 50, 57] ++ hdA ++ [40]) ++ (bodyL m d0 d1 d2 ++ [66]) by simp]
  exact small_app hm (by decide) (fun _ h => h) (by decide)
theorem less2_256 (hm : m ∈ [9, 10, 11, 12, 13, 32]) : ∀ c ∈ (lessT (bodyT m d0 d1 d2) ++ Str.ofString ")").cps.toList, c < 256 := by
  rw [less2_codes, show [50, 50, 57] ++ (hdA ++ 40 :: ((bodyL m d0 d1 d2 ++ [66]) ++ 41 :: [])) = ([50, 50, 57] ++ hdA ++ [40]) ++ (bodyL m d0 d1 d2 ++ [66, 41]) by simp]
  exact small_app hm (by decide) (fun _ h => h) (by decide)
end
end Mine
end
theorem Mine.walk_off_TI : True := by
  w_top off
  exact True.intro
section
open PySem PySem.W PyProof.Rows
set_option maxRecDepth 100000
namespace Mine
section
variable {m d0 d1 d2 : Nat}
noncomputable abbrev hdB : List UInt8 := [50, 50, 57, 32, 58, 41, 32]
theorem o229 : octs (Str.ofString "229 :) FLAGS (") = hdB ++ patb := by decide +kernel
theorem oEnd : octs (Str.ofString ") :) FLAGS (B") = 41 :: restB := by decide +kernel
theorem oB : octs (Str.ofString "B") = [66] := by decide +kernel
theorem oP : octs (Str.ofString ")") = [41] := by decide +kernel
noncomputable abbrev W3 (d0 d1 d2 : Nat) : List (List UInt8) := [apl d0, apl d1, octs (nt d2)]
theorem octs_body0 : octs (bodyT m d0 d1 d2) = joinT (mB m) [] (W3 d0 d1 d2) := by
  have := octs_body (m := m) (d0 := d0) (d1 := d1) (d2 := d2) []
  rwa [List.append_nil] at this
theorem octs_more : octs (moreT m (bodyT m d0 d1 d2)) = hdB ++ (patb ++ (joinT (mB m) [] ([] :: W3 d0 d1 d2) ++ 41 :: restB)) := by
  unfold moreT
  rw [octs_app, octs_app, octs_app, o229, oEnd, octs_one, octs_body0]
  simp [joinT]
theorem octs_less : octs (lessT (bodyT m d0 d1 d2)) = hdB ++ (patb ++ joinT (mB m) [66] (W3 d0 d1 d2)) := by
  unfold lessT
  rw [octs_app, octs_app, o229, oB, List.append_assoc, List.append_assoc, octs_body]
theorem octs_less2 : octs (lessT (bodyT m d0 d1 d2) ++ Str.ofString ")") = hdB ++ (patb ++ (joinT (mB m) [66] (W3 d0 d1 d2) ++ 41 :: [])) := by
  rw [octs_app, octs_less, oP]
  simp
theorem flg_nil : (W3 d0 d1 d2 ++ [[]]).filter (· ≠ []) = flg d0 d1 d2 := by
  rw [List.filter_append]
  show _ ++ [] = _
  rw [List.append_nil]
theorem fl_reply (hm : m ∈ [9, 10, 11, 12, 13, 32]) (h0 : d0 < 2 ^ 110) (h1 : d1 < 2 ^ 110) (h2 : d2 < 2 ^ 110) : FlagsOk (octs (replyT m d0 d1 d2)) (flg d0 d1 d2) := by
  have hs := flg_small h0 h1 h2
  exact fl_main hm h0 h1 h2 (.inl rfl) octs_reply (by decide) (fun _ h => nomatch h) (by decide) rest40 (by decide) (by decide) flg_nil.symm hs.1 (by have := hs.2; omega)
theorem fl_two (hm : m ∈ [9, 10, 11, 12, 13, 32]) (h0 : d0 < 2 ^ 110) (h1 : d1 < 2 ^ 110) (h2 : d2 < 2 ^ 110) : FlagsOk ([70, 76, 65, 71, 83, 32, 40, 66, 41, 32] ++ octs (replyT m d0 d1 d2)) (flg d0 d1 d2) := by
  have hs := flg_small h0 h1 h2
  exact fl_main hm h0 h1 h2 (Ab := [70, 76, 65, 71, 83, 32, 40, 66, 41, 32] ++ hdB) (Rb := restB) (last := []) (ws := W3 d0 d1 d2) (.inl rfl) (by rw [octs_reply]; simp) (by decide) (fun _ h => nomatch h) (by decide) rest40 (by decide) (by decide) flg_nil.symm hs.1 (by have := hs.2; omega)
theorem fl_more (hm : m ∈ [9, 10, 11, 12, 13, 32]) (h0 : d0 < 2 ^ 110) (h1 : d1 < 2 ^ 110) (h2 : d2 < 2 ^ 110) : FlagsOk (octs (moreT m (bodyT m d0 d1 d2))) (flg d0 d1 d2) := by
  have hs := flg_small h0 h1 h2
  refine fl_main hm h0 h1 h2 (.inr rfl) octs_more (by decide) (fun _ h => nomatch h) (by decide) rest40 (by decide) (by decide) ?_ hs.1 (by have := hs.2; omega)
  show _ = ([] :: (W3 d0 d1 d2 ++ [[]])).filter (· ≠ [])
  rw [List.filter_cons, if_neg (by simp), flg_nil]
theorem fl_less2 (hm : m ∈ [9, 10, 11, 12, 13, 32]) (h0 : d0 < 2 ^ 110) (h1 : d1 < 2 ^ 110) (h2 : d2 < 2 ^ 110) : FlagsOk (octs (lessT (bodyT m d0 d1 d2) ++ Str.ofString ")")) (flg d0 d1 d2 ++ [[66]]) := by
  have hs := flg_small h0 h1 h2
  refine fl_main hm h0 h1 h2 (.inl rfl) octs_less2 (by decide) (by intro y hy; rw [List.mem_singleton.mp hy]; decide) (by decide) (fun r0 r1 h => by simp at h) (by decide) (by decide) ?_ ?_ ?_
  · rw [List.filter_append]; rfl
  · intro y hy
    rcases List.mem_append.mp hy with h | h
    · exact hs.1 y h
    · rw [List.mem_singleton.mp h]; decide
  · rw [List.length_append]
    have := hs.2
    show _ + 1 ≤ 5
    omega
theorem len_octs (x : Str) : (octs x).length = x.cps.toList.length := by unfold octs; simp
theorem fl_less (hm : m ∈ [9, 10, 11, 12, 13, 32]) (h0 : d0 < 2 ^ 110) (h1 : d1 < 2 ^ 110) (h2 : d2 < 2 ^ 110) : FlagsOk (octs (lessT (bodyT m d0 d1 d2))) [] := by
  have hj := join_len (m := m) (last := [66]) h0 h1 h2
  have hl : (octs (lessT (bodyT m d0 d1 d2))).length = 14 + (joinT (mB m) [66] (W3 d0 d1 d2)).length := by
    rw [octs_less]; simp [patb]; omega
  have e : (octs (lessT (bodyT m d0 d1 d2))).map (·.toNat) = [50, 50, 57, 32, 58, 41, 32, 70, 76, 65, 71, 83, 32] ++ 40 :: (joinT (mB m) [66] (W3 d0 d1 d2)).map (·.toNat) := by
    rw [octs_less]; simp [patb]
  have hn := no_num fun y hy => (join_nums (d0 := d0) (d1 := d1) (d2 := d2) hm (last := [66]) (by intro z hz; rw [List.mem_singleton.mp hz]; decide) y hy).2
  simp only [List.length_cons, List.length_nil] at hj
  generalize octs (lessT (bodyT m d0 d1 d2)) = x at *
  generalize joinT (mB m) [66] (W3 d0 d1 d2) = jn at *
  have hf : Found (x.toArray.map (·.toNat)) none := found_none (map_toArray x) (by rw [e]; exact only40 (by decide) hn)
  exact flags_none hf (by omega) (by omega)
theorem reply_size (h0 : d0 < 2 ^ 110) (h1 : d1 < 2 ^ 110) (h2 : d2 < 2 ^ 110) : (replyT m d0 d1 d2).cps.size ≤ 200 ∧ 8 ≤ (replyT m d0 d1 d2).cps.size := by
  have hb := body_len (m := m) h0 h1 h2
  rw [← Array.length_toList, reply_codes]
  generalize bodyL m d0 d1 d2 = bl at *
  simp
  omega
theorem fl_nl (h0 : d0 < 2 ^ 110) (h1 : d1 < 2 ^ 110) (h2 : d2 < 2 ^ 110) : FlagsOk ([10] ++ octs (replyT m d0 d1 d2)) [] := by
  have hz := reply_size (m := m) h0 h1 h2
  have hl := octs_len (replyT m d0 d1 d2)
  generalize octs (replyT m d0 d1 d2) = y at *
  have hf : Found ((([10] ++ y : List UInt8)).toArray.map (fun c : UInt8 => c.toNat)) none := found_nl (r := y.map (·.toNat)) (by rw [map_toArray]; rfl)
  exact flags_none hf (by rw [List.length_append, hl]; simp; omega) (by rw [List.length_append, hl]; simp; omega)
theorem reply_ok (hm : m ∈ [9, 10, 11, 12, 13, 32]) (h0 : d0 < 2 ^ 110) (h1 : d1 < 2 ^ 110) (h2 : d2 < 2 ^ 110) : ReplyOk m d0 d1 d2 := by
  obtain ⟨o, a1, a2, a3, _, _, _, _⟩ := fl_reply hm h0 h1 h2
  have hz := reply_size (m := m) h0 h1 h2
  exact ⟨o, a1, a2, a3, reply_port hm h2, reply_256 hm, by omega, hz.2⟩
theorem code_129 (x : Str) : r229 (Str.ofString "129" ++ x) = some .reply := by
  refine r229_code (a := 49) (b := 50) (c := 57) (r := x.cps.toList) ?_ (by decide)
  rw [Str.cps_append, Array.toList_append, show (Str.ofString "129").cps.toList = [49, 50, 57] by decide +kernel]
  rfl
theorem code_219 (x : Str) : r229 (Str.ofString "219" ++ x) = some .reply := by
  refine r229_code (a := 50) (b := 49) (c := 57) (r := x.cps.toList) ?_ (by decide)
  rw [Str.cps_append, Array.toList_append, show (Str.ofString "219").cps.toList = [50, 49, 57] by decide +kernel]
  rfl
theorem code_228 (x : Str) : r229 (Str.ofString "228 " ++ x) = some .reply := by
  refine r229_code (a := 50) (b := 50) (c := 56) (r := 32 :: x.cps.toList) ?_ (by decide)
  rw [Str.cps_append, Array.toList_append, show (Str.ofString "228 ").cps.toList = [50, 50, 56, 32] by decide +kernel]
  rfl
theorem slice3_len (x : Str) (h : 3 ≤ x.length) : (Txt.slice x (some 3) none).length ≤ x.length := by
  have e := beq_iff_eq.mp (slice_closes_fromL (x := x) (i := 3) (b := x.length) (by decide) (by omega) rfl)
  rw [e]
  show ((x.cps.toList.drop 3).take _).length ≤ _
  rw [List.length_take, List.length_drop, str_len x]
  omega
theorem end_ok (hm : m ∈ [9, 10, 11, 12, 13, 32]) (h0 : d0 < 2 ^ 110) (h1 : d1 < 2 ^ 110) (h2 : d2 < 2 ^ 110) : EndOk m d0 d1 d2 := by
  have hz := reply_size (m := m) h0 h1 h2
  have hb := body_len (m := m) h0 h1 h2
  have hz2 : (replyT m d0 d1 d2).length ≤ 200 ∧ 8 ≤ (replyT m d0 d1 d2).length := hz
  have l1 : (bodyT m d0 d1 d2).length ≤ 200 := by rw [str_len, body_codes]; omega
  have l2 : (lessT (bodyT m d0 d1 d2)).length ≤ 200 := by
    rw [str_len, less_codes]
    generalize bodyL m d0 d1 d2 = bl at *
    simp; omega
  have l3 : (moreT m (bodyT m d0 d1 d2)).cps.size < 900 := by
    rw [← Array.length_toList, more_codes]
    generalize bodyL m d0 d1 d2 = bl at *
    simp; omega
  have l4 : (lessT (bodyT m d0 d1 d2)).cps.size < 900 := Nat.lt_of_le_of_lt l2 (by decide)
  have l5 : (lessT (bodyT m d0 d1 d2) ++ Str.ofString ")").cps.size < 900 := by
    rw [← Array.length_toList, less2_codes]
    generalize bodyL m d0 d1 d2 = bl at *
    simp; omega
  have l6 := slice3_len (replyT m d0 d1 d2) (by omega)
  exact ⟨reply_256 hm, by omega, fl_two hm h0 h1 h2, fl_nl h0 h1 h2, l1, by omega, ⟨more_256 hm, l3, fl_more hm h0 h1 h2, more_proto hm⟩, ⟨less_256 hm, l4, fl_less hm h0 h1 h2, less_proto hm⟩, ⟨less2_256 hm, l5, fl_less2 hm h0 h1 h2, less2_proto hm⟩,
    few_proto hm, by omega, code_129 _, code_219 _, code_228 _⟩
end
end Mine
end
theorem Mine.walk_off_FN : True := by
  w_top off
  exact True.intro
section
open PySem PySem.W PyProof.Rows
set_option Elab.async false
set_option maxRecDepth 100000
set_option maxHeartbeats 8000000
namespace Mine
theorem tab_grown {h₀ h : Heap} {L : Addr} {tab : List (Addr × Obj)} (hT : Tab tab) (N : News h₀ L h tab) : GrownAt 47 h := by
  cases hT with
  | fresh => exact ⟨_, (N _ (.head _)).1⟩
  | full => exact ⟨_, (N _ (.tail _ (.head _))).1⟩
theorem fin : PySem.Challenge.rw_xi0006_01.Holds := by
  refine hd ?_
  k_go0
  (with_reducible rename Fr _ _ _ _ => F9)
  (with_reducible rename News _ _ _ _ => N9)
  (rename Top topProg _ _ _ _ _ => T9)
  (with_reducible rename Below _ _ _ _ => B9)
  (with_reducible rename Frag.In _ _ => X9)
  (with_reducible rename IntsAre _ _ => hI9)
  (rename (47 < _) => l9)
  k_dflt (refine' law_all B9 F9 X9 N9 T9 ?hp ?hdp ?hu ?hE codeHd lifted hI9 ?hz l9 ?hpl ?hq9 ?_)
  case hp => k_dflt (unfold lawSeg lawParts; rfl)
  case hdp => ktr_room
  case hu => ktr_units
  case hE => passes_own
  case hz => omega
  case hpl => exact fun m d0 d1 d2 hm b0 b1 b2 => ⟨reply_ok hm b0 b1 b2, end_ok hm b0 b1 b2⟩
  case hq9 => exact r229_none (r := [32, 50, 49, 50, 41]) (by decide +kernel) (by decide)
  intro tab8 h8 tk8 m8 hT8 F8 N8
  dsimp only
  refine ⟨?_, tab_grown hT8 N8, trivial⟩
  wrow_close
end Mine
end
theorem PySem.Challenge.cw_xi0006_01_holds : PySem.Challenge.rw_xi0006_01.Holds := by
  exact Mine.fin
