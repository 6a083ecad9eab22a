import JvmDerived
import JvmDerived.Pilot.@@N@@Statement
import JvmDerived.Pilot.@@N@@Code
set_option linter.unusedVariables false
set_option linter.unusedSimpArgs false
namespace Jvm.Pilot.@@N@@
section OwnFl
open Jvm Jvm.FP.Core Jvm.Free.Hsc.MRound
theorem own_andm (x : Int32) (m : Nat) (hm : m < 2147483648) : 0 ≤ (x &&& Int32.ofNat m).toInt ∧ (x &&& Int32.ofNat m).toInt ≤ m := by
  have h : (x &&& Int32.ofNat m).toInt = (x.toBitVec &&& BitVec.ofNat 32 m).toInt := rfl
  rw [h, BitVec.toInt_eq_toNat_cond, BitVec.toNat_and, BitVec.toNat_ofNat]
  have e : m % 2 ^ 32 = m := Nat.mod_eq_of_lt (by omega)
  rw [e]
  have : x.toBitVec.toNat &&& m ≤ m := Nat.and_le_right
  split <;> omega
theorem own_cmp {a M N P j : Int} (h1 : 2 * a * P ≤ 2 * M * N + N) (h2 : 2 * M * N ≤ 2 * a * P + N) (hN : 0 < N) (hP : N < P) (hP2 : P % 2 = 0) : j * N ≤ 2 * a ↔ j * P ≤ 2 * M := by
  obtain ⟨P', rfl⟩ : ∃ P', P = 2 * P' := ⟨P / 2, by omega⟩
  constructor
  · intro h
    have e1 : j * N * (2 * P') ≤ 2 * a * (2 * P') := Int.mul_le_mul_of_nonneg_right h (by omega)
    have e2 : j * (2 * P') * N ≤ (2 * M + 1) * N := by
      have : j * N * (2 * P') = j * (2 * P') * N := by rw [Int.mul_assoc, Int.mul_comm N, ← Int.mul_assoc]
      rw [← this, Int.add_mul, Int.one_mul]
      omega
    have e3 : j * (2 * P') ≤ 2 * M + 1 := Int.le_of_mul_le_mul_right e2 hN
    have e4 : j * (2 * P') = 2 * (j * P') := by rw [← Int.mul_assoc, Int.mul_comm j 2, Int.mul_assoc]
    rw [e4] at e3 ⊢
    omega
  · intro h
    refine Int.le_of_not_gt fun q => ?_
    have q2 : 2 * a + 1 ≤ j * N := q
    have e1 : (2 * a + 1) * (2 * P') ≤ j * N * (2 * P') := Int.mul_le_mul_of_nonneg_right q2 (by omega)
    have e2 : j * (2 * P') * N ≤ 2 * M * N := Int.mul_le_mul_of_nonneg_right h (by omega)
    have e3 : j * N * (2 * P') = j * (2 * P') * N := by rw [Int.mul_assoc, Int.mul_comm N, ← Int.mul_assoc]
    rw [e3, Int.add_mul, Int.one_mul] at e1
    omega
/-- the floor of a/N + 1/2 by comparisons -/
theorem own_fl {a N K : Int} (hN : 0 < N) : (2 * a + N) / (2 * N) = K ↔ (2 * K - 1) * N ≤ 2 * a ∧ ¬ (2 * K + 1) * N ≤ 2 * a := by
  have e1 : (2 * K - 1) * N = 2 * (K * N) - N := by rw [Int.sub_mul, Int.one_mul, Int.mul_assoc]
  have e2 : (2 * K + 1) * N = 2 * (K * N) + N := by rw [Int.add_mul, Int.one_mul, Int.mul_assoc]
  rw [e1, e2]
  constructor
  · rintro rfl
    have h1 := Int.mul_ediv_add_emod (2 * a + N) (2 * N)
    have h2 := Int.emod_nonneg (2 * a + N) (show 2 * N ≠ 0 by omega)
    have h3 := Int.emod_lt_of_pos (2 * a + N) (show 0 < 2 * N by omega)
    have e : 2 * N * ((2 * a + N) / (2 * N)) = 2 * ((2 * a + N) / (2 * N) * N) := by rw [Int.mul_assoc, Int.mul_comm N]
    rw [e] at h1
    generalize (2 * a + N) / (2 * N) * N = z at *
    omega
  · rintro ⟨h1, h2⟩
    refine Int.ediv_emod_unique (r := 2 * a + N - 2 * N * K) (by omega) |>.mpr ⟨?_, ?_, ?_⟩ |>.1
    · omega
    · have e : 2 * N * K = 2 * (K * N) := by rw [Int.mul_assoc, Int.mul_comm N]
      rw [e]; generalize K * N = z at *; omega
    · have e : 2 * N * K = 2 * (K * N) := by rw [Int.mul_assoc, Int.mul_comm N]
      rw [e]; generalize K * N = z at *; omega
theorem own_toN (k : Int64) (h0 : 0 ≤ k.toInt) : k.toBitVec.toNat = k.toInt.toNat := by
  have e : k.toInt = k.toBitVec.toInt := rfl
  rw [e] at h0 ⊢
  rw [BitVec.toInt_eq_toNat_cond] at h0 ⊢
  have := k.toBitVec.isLt
  split at h0 <;> split <;> omega
/-- arithmetic shifts -/
theorem own_sar (x k : Int64) (h0 : 0 ≤ k.toInt) (h1 : k.toInt < 64) : (x >>> k).toInt = x.toInt / 2 ^ k.toInt.toNat := by
  have e : (x >>> k).toInt = (x.toBitVec.sshiftRight' (k.toBitVec.smod 64)).toInt := rfl
  have hN := own_toN k h0
  have hs : (k.toBitVec.smod 64).toNat = k.toInt.toNat := by
    have m1 : k.toBitVec.msb = false := by rw [BitVec.msb_eq_false_iff_two_mul_lt]; omega
    have m2 : (64 : BitVec 64).msb = false := by decide
    rw [BitVec.toNat_smod, m1, m2]
    show (k.toBitVec.umod 64).toNat = _
    rw [BitVec.umod_eq, BitVec.toNat_umod, hN]
    have : (64 : BitVec 64).toNat = 64 := rfl
    rw [this]
    omega
  rw [e, BitVec.toInt_sshiftRight', hs, Int.shiftRight_eq_div_pow]
  rfl
theorem own_pos64 (x : Int64) (h : x.toBitVec.toNat < 2 ^ 63) : x.toInt = x.toBitVec.toNat := by
  have e : x.toInt = x.toBitVec.toInt := rfl
  rw [e, BitVec.toInt_eq_toNat_cond, if_pos (by omega)]
theorem own_bits (b : UInt64) : b.toInt64.toBitVec.toNat = b.toNat := rfl
theorem own_neg (b : UInt64) : b.toInt64 < 0 ↔ 2 ^ 63 ≤ b.toNat := by
  have h1 : b.toInt64 < 0 ↔ b.toInt64.toInt < 0 := by rw [Int64.lt_iff_toInt_lt]; exact Iff.rfl
  have e : b.toInt64.toInt = b.toInt64.toBitVec.toInt := rfl
  rw [h1, e, BitVec.toInt_eq_toNat_cond, own_bits]
  have := b.toNat_lt
  split <;> omega
theorem own_bexp (b : UInt64) : (bexp b).toInt = ((b.toNat / 2 ^ 52 % 2 ^ 11 : Nat) : Int) := by
  have hm : (b.toInt64 &&& 9218868437227405312).toBitVec.toNat = b.toNat &&& 9218868437227405312 := by
    rw [Int64.toBitVec_and, BitVec.toNat_and, own_bits]; rfl
  have hle : b.toNat &&& 9218868437227405312 ≤ 9218868437227405312 := Nat.and_le_right
  have hp := own_pos64 (b.toInt64 &&& 9218868437227405312) (by rw [hm]; omega)
  have h52 : ((52 : Int64) &&& 63).toInt = 52 := by decide
  unfold bexp
  rw [own_sar _ _ (by rw [h52]; decide) (by rw [h52]; decide), h52, hp, hm]
  have e : (b.toNat &&& 9218868437227405312) / 2 ^ 52 = b.toNat / 2 ^ 52 % 2 ^ 11 := by
    rw [← Nat.shiftRight_eq_div_pow, Nat.shiftRight_and_distrib, Nat.shiftRight_eq_div_pow, show 9218868437227405312 >>> 52 = 2 ^ 11 - 1 by decide, Nat.and_two_pow_sub_one_eq_mod]
  rw [← e]
  norm_cast
theorem own_sig (b : UInt64) : (sigOf b).toInt = ((2 ^ 52 + b.toNat % 2 ^ 52 : Nat) : Int) := by
  have hm : (sigOf b).toBitVec.toNat = (b.toNat &&& 4503599627370495) ||| 4503599627370496 := by
    unfold sigOf
    rw [Int64.toBitVec_or, BitVec.toNat_or, Int64.toBitVec_and, BitVec.toNat_and, own_bits]; rfl
  have e1 : b.toNat &&& 4503599627370495 = b.toNat % 2 ^ 52 := Nat.and_two_pow_sub_one_eq_mod b.toNat 52
  have hlt : b.toNat % 2 ^ 52 < 2 ^ 52 := Nat.mod_lt _ (by decide)
  have e2 : b.toNat % 2 ^ 52 ||| 4503599627370496 = 2 ^ 52 + b.toNat % 2 ^ 52 := by
    rw [Nat.or_comm]
    have := Nat.two_pow_add_eq_or_of_lt hlt 1
    simpa using this.symm
  rw [e1, e2] at hm
  rw [own_pos64 _ (by rw [hm]; omega), hm]
theorem own_sub64 {x y : Int64} (h1 : -9223372036854775808 ≤ x.toInt - y.toInt) (h2 : x.toInt - y.toInt < 9223372036854775808) : (x - y).toInt = x.toInt - y.toInt := by
  rw [Int64.toInt_sub]
  exact Int.bmod_eq_of_le_mul_two (by omega) (by omega)
theorem own_add64 {x y : Int64} (h1 : -9223372036854775808 ≤ x.toInt + y.toInt) (h2 : x.toInt + y.toInt < 9223372036854775808) : (x + y).toInt = x.toInt + y.toInt := by
  rw [Int64.toInt_add]
  exact Int.bmod_eq_of_le_mul_two (by omega) (by omega)
theorem own_neg64 {x : Int64} (h : -9223372036854775808 < x.toInt) : (-x).toInt = -x.toInt := by
  have h2 := x.toInt_lt
  rw [Int64.toInt_neg]
  exact Int.bmod_eq_of_le_mul_two (by omega) (by omega)
theorem own_sh (b : UInt64) : (shOf b).toInt = 1074 - ((b.toNat / 2 ^ 52 % 2 ^ 11 : Nat) : Int) := by
  have h := own_bexp b
  have hlt : b.toNat / 2 ^ 52 % 2 ^ 11 < 2 ^ 11 := Nat.mod_lt _ (by decide)
  have e : (1074 : Int64).toInt = 1074 := by decide
  unfold shOf
  rw [own_sub64 (by rw [h, e]; omega) (by rw [h, e]; omega), h, e]
theorem own_mask (z : Int64) : z &&& (-64) = 0 ↔ 0 ≤ z.toInt ∧ z.toInt < 64 := by
  have hN := z.toBitVec.isLt
  have hz : z.toInt = z.toBitVec.toInt := rfl
  have h0 : z &&& (-64) = 0 ↔ z.toBitVec.toNat &&& 18446744073709551552 = 0 := by
    rw [← Int64.toBitVec_inj, Int64.toBitVec_and, ← BitVec.toNat_inj, BitVec.toNat_and]
    exact Iff.rfl
  have h1 : (z.toBitVec.toNat &&& 18446744073709551552) / 2 ^ 6 = z.toBitVec.toNat / 64 := by
    rw [← Nat.shiftRight_eq_div_pow, Nat.shiftRight_and_distrib, Nat.shiftRight_eq_div_pow, show 18446744073709551552 >>> 6 = 2 ^ 58 - 1 by decide, Nat.and_two_pow_sub_one_eq_mod]
    omega
  have h2 : (z.toBitVec.toNat &&& 18446744073709551552) % 2 ^ 6 = 0 := by
    rw [Nat.and_mod_two_pow, show 18446744073709551552 % 2 ^ 6 = 0 by decide, Nat.and_zero]
  rw [h0, hz, BitVec.toInt_eq_toNat_cond]
  generalize z.toBitVec.toNat &&& 18446744073709551552 = w at *
  split <;> omega
theorem own_shamt {z : Int64} (h0 : 0 ≤ z.toInt) (h1 : z.toInt < 64) : (z.toInt32.toInt64 &&& 63).toInt = z.toInt := by
  have q : ∀ k : Fin 64, ((Int64.ofInt (k.val : Int)).toInt32.toInt64 &&& 63).toInt = (k.val : Int) := by decide
  have e : z = Int64.ofInt ((z.toInt.toNat : Nat) : Int) := by rw [Int.toNat_of_nonneg h0, Int64.ofInt_toInt]
  have := q ⟨z.toInt.toNat, by omega⟩
  rw [← e] at this
  rw [this]
  exact Int.toNat_of_nonneg h0
theorem own_half {b : UInt64} {r : Int64} (h0 : 0 ≤ (shOf b).toInt) (h1 : (shOf b).toInt < 64) (h2 : -9223372036854775808 ≤ r.toInt) (h3 : r.toInt < 9223372036854775807) : (halfOf b r).toInt = (r.toInt / 2 ^ (shOf b).toInt.toNat + 1) / 2 := by
  have hs := own_shamt h0 h1
  have e1 : ((1 : Int64) &&& 63).toInt = 1 := by decide
  have e2 : (1 : Int64).toInt = 1 := by decide
  have hq : (shrOf b r).toInt = r.toInt / 2 ^ (shOf b).toInt.toNat := by
    unfold shrOf
    rw [own_sar _ _ (by omega) (by omega), hs]
  have hp : (0 : Int) < 2 ^ (shOf b).toInt.toNat := Int.pow_pos (by decide)
  have l1 : -9223372036854775808 ≤ (shrOf b r).toInt := by have := (shrOf b r).le_toInt; omega
  have l2 : (shrOf b r).toInt < 9223372036854775807 := by
    rw [hq]
    refine Int.ediv_lt_of_lt_mul hp ?_
    have : (9223372036854775807 : Int) * 1 ≤ 9223372036854775807 * 2 ^ (shOf b).toInt.toNat := Int.mul_le_mul_of_nonneg_left (by omega) (by decide)
    omega
  unfold halfOf
  rw [own_sar _ _ (by rw [e1]; decide) (by rw [e1]; decide), e1, own_add64 (by omega) (by omega), e2, hq]
  rfl
theorem own_round_in {b : UInt64} (h1 : 1011 ≤ b.toNat / 2 ^ 52 % 2 ^ 11) (h2 : b.toNat / 2 ^ 52 % 2 ^ 11 ≤ 1074) :
    (roundOf b).toInt = ((if 2 ^ 63 ≤ b.toNat then -((2 ^ 52 + b.toNat % 2 ^ 52 : Nat) : Int) else ((2 ^ 52 + b.toNat % 2 ^ 52 : Nat) : Int)) / 2 ^ (1074 - b.toNat / 2 ^ 52 % 2 ^ 11) + 1) / 2 := by
  have hs := own_sh b
  have hg := own_sig b
  have hlt : b.toNat % 2 ^ 52 < 2 ^ 52 := Nat.mod_lt _ (by decide)
  have ht : (shOf b).toInt.toNat = 1074 - b.toNat / 2 ^ 52 % 2 ^ 11 := by omega
  have hn := own_neg64 (x := sigOf b) (by omega)
  unfold roundOf
  rw [if_pos ((own_mask _).mpr ⟨by omega, by omega⟩)]
  by_cases hb : 2 ^ 63 ≤ b.toNat
  · rw [if_pos ((own_neg b).mpr hb), if_pos hb, own_half (by omega) (by omega) (by omega) (by omega), ht, hn, hg]
  · rw [if_neg (fun q => hb ((own_neg b).mp q)), if_neg hb, own_half (by omega) (by omega) (by omega) (by omega), ht, hg]
theorem own_round_out {b : UInt64} (h : ¬ (1011 ≤ b.toNat / 2 ^ 52 % 2 ^ 11 ∧ b.toNat / 2 ^ 52 % 2 ^ 11 ≤ 1074)) : roundOf b = FP.d2l b := by
  have hs := own_sh b
  unfold roundOf
  rw [if_neg (fun q => ?_)]
  have := (own_mask _).mp q
  omega
theorem own_fin {b : UInt64} {s : Bool} {m : Nat} {q : Int} (h : val64 b = .fin s m q) :
    (b.toNat / 2 ^ 52 % 2 ^ 11 = 0 ∧ q = -1074 ∧ m = b.toNat % 2 ^ 52) ∨ (1 ≤ b.toNat / 2 ^ 52 % 2 ^ 11 ∧ m = 2 ^ 52 + b.toNat % 2 ^ 52 ∧ q = ((b.toNat / 2 ^ 52 % 2 ^ 11 : Nat) : Int) - 1075) := by
  have hE : fieldE b64 b.toNat = b.toNat / 2 ^ 52 % 2 ^ 11 := rfl
  have hT : fieldT b64 b.toNat = b.toNat % 2 ^ 52 := rfl
  have hq : b64.qmin = -1074 := by decide
  have ht : b64.tails = 2 ^ 52 := by decide
  unfold val64 at h
  unfold decode at h
  rw [hE, hT, hq, ht] at h
  generalize b.toNat / 2 ^ 52 % 2 ^ 11 = E at *
  generalize b.toNat % 2 ^ 52 = T at *
  split at h
  · split at h <;> cases h
  · split at h
    · rename_i h1
      cases h
      exact Or.inl ⟨h1, rfl, rfl⟩
    · cases h
      exact Or.inr ⟨by omega, rfl, by omega⟩
theorem own_round_mid {b : UInt64} {s : Bool} {m : Nat} {q : Int} (h : val64 b = .fin s m q) (hm : 2 ^ 52 ≤ m) (h1 : -64 ≤ q) (h2 : q ≤ -1) : (roundOf b).toInt = (signed s m / 2 ^ (-q - 1).toNat + 1) / 2 := by
  have hs := sign_bits (Or.inl ⟨m, q, h⟩)
  have hlt : b.toNat % 2 ^ 52 < 2 ^ 52 := Nat.mod_lt _ (by decide)
  rcases own_fin h with ⟨e1, e2, e3⟩ | ⟨e1, e2, e3⟩
  · omega
  · have e4 : (-q - 1).toNat = 1074 - b.toNat / 2 ^ 52 % 2 ^ 11 := by omega
    rw [own_round_in (by omega) (by omega), e4, ← e2]
    cases s with
    | false => rw [if_neg (fun x => by have := hs.mpr x; cases this)]; rfl
    | true => rw [if_pos (hs.mp rfl)]; rfl
theorem own_d2l {b : UInt64} {s : Bool} {m : Nat} {q : Int} (h : val64 b = .fin s m q) : (FP.d2l b).toInt = max (-2 ^ 63) (min (2 ^ 63 - 1) (signed s (m * 2 ^ q.toNat / 2 ^ (-q).toNat))) := by
  have e : FP.d2l b = .ofInt (toInt (-2 ^ 63) (2 ^ 63 - 1) (val64 b)) := rfl
  rw [e, h]
  show (Int64.ofInt (max (-2 ^ 63) (min (2 ^ 63 - 1) (signed s (m * 2 ^ q.toNat / 2 ^ (-q).toNat))))).toInt = _
  rw [Int64.toInt_ofInt_of_le (by omega) (by omega)]
theorem own_round_small {b : UInt64} {s : Bool} {m : Nat} {q : Int} (h : val64 b = .fin s m q) (hm : m < 2 ^ 53) (hq : q < -64) : (roundOf b).toInt = 0 := by
  rw [own_round_out (fun x => by rcases own_fin h with ⟨e1, e2, e3⟩ | ⟨e1, e2, e3⟩ <;> omega), own_d2l h]
  have e1 : q.toNat = 0 := by omega
  have e2 : m * 2 ^ q.toNat / 2 ^ (-q).toNat = 0 := by
    rw [e1, Nat.pow_zero, Nat.mul_one]
    refine Nat.div_eq_of_lt (Nat.lt_of_lt_of_le hm (Nat.pow_le_pow_right (by decide) (by omega)))
  rw [e2, signed_zero]
  decide
theorem own_round_sign {b : UInt64} {s : Bool} (h : (∃ c q, val64 b = .fin s c q) ∨ val64 b = .inf s) : (s = false → 0 ≤ (roundOf b).toInt) ∧ (s = true → (roundOf b).toInt ≤ 0) := by
  have hs := sign_bits h
  by_cases hr : 1011 ≤ b.toNat / 2 ^ 52 % 2 ^ 11 ∧ b.toNat / 2 ^ 52 % 2 ^ 11 ≤ 1074
  · rw [own_round_in hr.1 hr.2]
    have hp : (0 : Int) < 2 ^ (1074 - b.toNat / 2 ^ 52 % 2 ^ 11) := Int.pow_pos (by decide)
    constructor
    · rintro rfl
      rw [if_neg (fun x => by have := hs.mpr x; cases this)]
      have := Int.ediv_nonneg (show (0 : Int) ≤ ((2 ^ 52 + b.toNat % 2 ^ 52 : Nat) : Int) by omega) (Int.le_of_lt hp)
      omega
    · rintro rfl
      rw [if_pos (hs.mp rfl)]
      have : -((2 ^ 52 + b.toNat % 2 ^ 52 : Nat) : Int) / 2 ^ (1074 - b.toNat / 2 ^ 52 % 2 ^ 11) < 0 := Int.ediv_neg_of_neg_of_pos (by omega) hp
      omega
  · rw [own_round_out hr]
    rcases h with ⟨c, q, h⟩ | h
    · rw [own_d2l h]
      generalize c * 2 ^ q.toNat / 2 ^ (-q).toNat = z
      constructor
      · rintro rfl
        show 0 ≤ max (-2 ^ 63) (min (2 ^ 63 - 1) (z : Int))
        omega
      · rintro rfl
        show max (-2 ^ 63) (min (2 ^ 63 - 1) (-(z : Int))) ≤ 0
        omega
    · have e : FP.d2l b = .ofInt (toInt (-2 ^ 63) (2 ^ 63 - 1) (val64 b)) := rfl
      rw [e, h]
      constructor
      · rintro rfl; decide
      · rintro rfl; decide
/-- a ratio below 2^52, rounded: what stands there -/
theorem own_ratio {s : Bool} {A N : Nat} (hA : 0 < A) (hA2 : A < 2 ^ 52) (hN : 0 < N) (hN2 : N < 2 ^ 70) :
    ∃ (m0 t : Nat), 1 ≤ t ∧ t ≤ 1000 ∧ 2 * (A * 2 ^ t) ≤ (2 * m0 + 1) * N ∧ 2 * m0 * N ≤ 2 * (A * 2 ^ t) + N ∧ N < 2 ^ t ∧ 2 ^ 52 ≤ m0 ∧ m0 ≤ 2 ^ 53 ∧
      ((m0 < 2 ^ 53 ∧ roundRatio b64 s A N 0 = .fin s m0 (-(t : Int))) ∨ (m0 = 2 ^ 53 ∧ 2 ≤ t ∧ roundRatio b64 s A N 0 = .fin s (2 ^ 52) (1 - (t : Int)))) := by
  have hp : b64.p = 53 := rfl
  have hqm : b64.qmin = -1074 := by decide
  have hqM : b64.qmax = 971 := by decide
  have ht : b64.tails = 2 ^ 52 := by decide
  obtain ⟨q, hq⟩ : ∃ q, q = quantum b64 A N 0 := ⟨_, rfl⟩
  have hb := quantum_below (f := b64) hA hN 0
  have hnb := quantum_not_below (f := b64) hA hN 0
  rw [← hq, hp] at hb hnb
  -- the quantum is below 0, and above the least
  have l1 := (leading_spec hA hN).1
  have l2 := (leading_spec hA hN).2
  have k1 : leading A N < 52 := by
    refine lt_of_below l1 ?_
    unfold Below
    show A * 2 ^ 0 < N * 2 ^ 52
    omega
  have k2 : -71 < leading A N + 1 := by
    refine lt_of_below (a := -71) ?_ l2
    unfold Below
    show ¬ A * 2 ^ 71 < N * 2 ^ 0
    omega
  have hq2 : q = leading A N - 52 := by
    rw [hq]; unfold quantum; rw [hqm, hp]; omega
  obtain ⟨t, ht2⟩ : ∃ t : Nat, q = -(t : Int) := ⟨(-q).toNat, by omega⟩
  have hn1 : unitsNum A 0 q = A * 2 ^ t := by unfold unitsNum; rw [show (0 - q).toNat = t by omega]
  have hn2 : unitsDen N 0 q = N := by unfold unitsDen; rw [show (q - 0).toNat = 0 by omega, Nat.pow_zero, Nat.mul_one]
  have hup : A * 2 ^ t < 2 ^ 53 * N := by
    have := (units_below A N 0 q 53).mpr (by simpa using hb)
    rwa [hn1, hn2] at this
  have hlo : 2 ^ 52 * N ≤ A * 2 ^ t := by
    rcases hnb with h | h
    · omega
    · refine Nat.le_of_not_lt fun x => h ?_
      have := (units_below A N 0 q 52).mp (by rw [hn1, hn2]; exact x)
      simpa using this
  have hround : roundRatio b64 s A N 0 = settle b64 s (nearest (A * 2 ^ t) N) q := by
    unfold roundRatio roundAt
    rw [if_neg (by omega), ← hq, hn1, hn2]
  obtain ⟨s1, s2, -⟩ := nearest_spec (A * 2 ^ t) N hN
  have m1 := nearest_ge hN hlo
  have m2 := nearest_le hN (Nat.le_of_lt hup)
  generalize nearest (A * 2 ^ t) N = m0 at *
  have hNt : N < 2 ^ t := by
    refine Nat.lt_of_not_le fun x => ?_
    have h1 : A * 2 ^ t ≤ A * N := Nat.mul_le_mul_left _ x
    have h2 : A * N < 2 ^ 52 * N := Nat.mul_lt_mul_of_pos_right hA2 hN
    omega
  refine ⟨m0, t, by omega, by omega, s1, s2, hNt, m1, m2, ?_⟩
  rw [hround]
  unfold settle
  rw [hp]
  by_cases hm : m0 < 2 ^ 53
  · refine Or.inl ⟨hm, ?_⟩
    rw [if_pos hm, ← ht2]
    unfold bound
    rw [if_pos (by omega)]
  · have hm2 : m0 = 2 ^ 53 := by omega
    refine Or.inr ⟨hm2, ?_, ?_⟩
    · refine Nat.le_of_not_lt fun x => ?_
      have : t = 1 := by omega
      subst this
      rw [hm2] at s2
      omega
    · rw [if_neg hm, ht]
      unfold bound
      rw [if_pos (by omega)]
      congr 1
      omega
/-- Math.round of such a ratio -/
theorem own_round_ratio {b : UInt64} {s : Bool} {A N : Nat} (hA : 0 < A) (hA2 : A < 2 ^ 52) (hN : 0 < N) (hN2 : N < 2 ^ 70) (hb : val64 b = roundRatio b64 s A N 0) :
    (roundOf b).toInt = (2 * signed s A + N) / (2 * N) := by
  obtain ⟨m0, t, t1, t2, s1, s2, hNt, m1, m2, hor⟩ := own_ratio (s := s) hA hA2 hN hN2
  have hNi : (0 : Int) < N := by omega
  obtain ⟨P, hP⟩ : ∃ P : Int, P = ((2 ^ t : Nat) : Int) := ⟨_, rfl⟩
  have hNP : (N : Int) < P := by rw [hP]; omega
  obtain ⟨t', rfl⟩ : ∃ t', t = t' + 1 := ⟨t - 1, by omega⟩
  have hP2 : P = 2 * ((2 ^ t' : Nat) : Int) := by rw [hP, Nat.pow_succ]; omega
  -- the two magnitudes with their sign
  have c1 : 2 * signed s A * P ≤ 2 * signed s m0 * N + N ∧ 2 * signed s m0 * N ≤ 2 * signed s A * P + N := by
    have i1 : (2 * ((A : Int) * P)) ≤ (2 * (m0 : Int) + 1) * N := by rw [hP]; exact_mod_cast s1
    have i2 : 2 * (m0 : Int) * N ≤ 2 * ((A : Int) * P) + N := by rw [hP]; exact_mod_cast s2
    rw [Int.add_mul, Int.one_mul] at i1
    cases s with
    | false =>
      show 2 * (A : Int) * P ≤ 2 * (m0 : Int) * N + N ∧ 2 * (m0 : Int) * N ≤ 2 * (A : Int) * P + N
      rw [Int.mul_assoc 2 (A : Int) P]
      exact ⟨i1, i2⟩
    | true =>
      show 2 * -(A : Int) * P ≤ 2 * -(m0 : Int) * N + N ∧ 2 * -(m0 : Int) * N ≤ 2 * -(A : Int) * P + N
      have e1 : 2 * -(A : Int) * P = -(2 * ((A : Int) * P)) := by rw [Int.mul_assoc, Int.neg_mul, Int.mul_neg]
      have e2 : 2 * -(m0 : Int) * N = -(2 * (m0 : Int) * N) := by rw [Int.mul_neg, Int.neg_mul]
      rw [e1, e2]
      omega
  obtain ⟨K, hK⟩ : ∃ K : Int, K = (2 * signed s A + N) / (2 * N) := ⟨_, rfl⟩
  rw [← hK]
  obtain ⟨f1, f2⟩ := (own_fl hNi).mp hK.symm
  have g1 := (own_cmp c1.1 c1.2 hNi hNP (by omega)).mp f1
  have g2 : ¬ (2 * K + 1) * P ≤ 2 * signed s m0 := fun x => f2 ((own_cmp c1.1 c1.2 hNi hNP (by omega)).mpr x)
  have big : 64 ≤ t' → K = 0 := fun h => by
    have hb2 : (2 : Nat) ^ 64 ≤ 2 ^ t' := Nat.pow_le_pow_right (by decide) h
    have hM : -P < 2 * signed s m0 ∧ 2 * signed s m0 < P := by
      cases s
      · show -P < 2 * (m0 : Int) ∧ 2 * (m0 : Int) < P
        omega
      · show -P < 2 * -(m0 : Int) ∧ 2 * -(m0 : Int) < P
        omega
    have u1 : 2 * K - 1 < 1 := Int.lt_of_mul_lt_mul_right (a := P) (by rw [Int.one_mul]; omega) (by omega)
    have u2 : -1 < 2 * K + 1 := Int.lt_of_mul_lt_mul_right (a := P) (by rw [Int.neg_mul, Int.one_mul]; omega) (by omega)
    omega
  have fin : ∀ (M p : Int), 0 < p → (2 * K - 1) * p ≤ M → ¬ (2 * K + 1) * p ≤ M → (M / p + 1) / 2 = K := fun M p hp x1 x2 => by
    have y1 := (Int.le_ediv_iff_mul_le hp).mpr x1
    have y2 : ¬ 2 * K + 1 ≤ M / p := fun z => x2 ((Int.le_ediv_iff_mul_le hp).mp z)
    omega
  rcases hor with ⟨v1, v2⟩ | ⟨v1, v3, v2⟩
  · rw [v2] at hb
    by_cases ht : t' + 1 ≤ 64
    · rw [own_round_mid hb m1 (by omega) (by omega), show (-(-((t' + 1 : Nat) : Int)) - 1).toNat = t' by omega]
      have e : (2 : Int) ^ t' = ((2 ^ t' : Nat) : Int) := by norm_cast
      rw [e]
      have hp : (0 : Int) < ((2 ^ t' : Nat) : Int) := by have := Nat.two_pow_pos t'; omega
      refine fin _ _ hp ?_ ?_
      · rw [hP2, ← Int.mul_assoc, Int.mul_comm _ 2, Int.mul_assoc] at g1
        omega
      · rw [hP2, ← Int.mul_assoc, Int.mul_comm _ 2, Int.mul_assoc] at g2
        omega
    · rw [own_round_small hb v1 (by omega), big (by omega)]
  · rw [v2] at hb
    obtain ⟨r, rfl⟩ : ∃ r, t' = r + 1 := ⟨t' - 1, by omega⟩
    have hP4 : P = 4 * ((2 ^ r : Nat) : Int) := by rw [hP2, Nat.pow_succ]; omega
    have hM : signed s m0 = 2 * signed s (2 ^ 52) := by rw [v1]; cases s <;> decide
    by_cases ht : r + 1 ≤ 64
    · rw [own_round_mid hb (by decide) (by omega) (by omega), show (-(1 - ((r + 1 + 1 : Nat) : Int)) - 1).toNat = r by omega]
      have e : (2 : Int) ^ r = ((2 ^ r : Nat) : Int) := by norm_cast
      rw [e]
      have hp : (0 : Int) < ((2 ^ r : Nat) : Int) := by have := Nat.two_pow_pos r; omega
      refine fin _ _ hp ?_ ?_
      · rw [hP4, hM, ← Int.mul_assoc, Int.mul_comm _ 4, Int.mul_assoc] at g1
        omega
      · rw [hP4, hM, ← Int.mul_assoc, Int.mul_comm _ 4, Int.mul_assoc] at g2
        omega
    · rw [own_round_small hb (by decide) (by omega), big (by omega)]
/-- a whole number as a double -/
theorem own_whole {s : Bool} {A : Nat} (hA : 0 < A) (hA2 : A < 2 ^ 64) :
    ∃ (c : Nat) (r : Int), roundRatio b64 s A 1 0 = .fin s c r ∧ 0 < c ∧ c < 2 ^ 53 ∧ r ≤ 13 ∧ ((r ≤ 0 ∧ c = A * 2 ^ (-r).toNat) ∨ (0 < r ∧ 2 ^ 52 ≤ c ∧ 2 ^ 53 ≤ A)) := by
  have hp : b64.p = 53 := rfl
  have hqm : b64.qmin = -1074 := by decide
  have hqM : b64.qmax = 971 := by decide
  have ht : b64.tails = 2 ^ 52 := by decide
  obtain ⟨q, hq⟩ : ∃ q, q = quantum b64 A 1 0 := ⟨_, rfl⟩
  have hb := quantum_below (f := b64) hA (by decide : 0 < 1) 0
  have hnb := quantum_not_below (f := b64) hA (by decide : 0 < 1) 0
  rw [← hq, hp] at hb hnb
  have l1 := (leading_spec hA (by decide : 0 < 1)).1
  have l2 := (leading_spec hA (by decide : 0 < 1)).2
  have k1 : leading A 1 < 64 := by
    refine lt_of_below l1 ?_
    unfold Below
    show A * 2 ^ 0 < 1 * 2 ^ 64
    omega
  have k2 : 0 < leading A 1 + 1 := by
    refine lt_of_below (a := 0) ?_ l2
    unfold Below
    show ¬ A * 2 ^ 0 < 1 * 2 ^ 0
    omega
  have hq2 : q = leading A 1 - 52 := by
    rw [hq]; unfold quantum; rw [hqm, hp]; omega
  have hround : roundRatio b64 s A 1 0 = settle b64 s (nearest (unitsNum A 0 q) (unitsDen 1 0 q)) q := by
    unfold roundRatio roundAt
    rw [if_neg (by omega), ← hq]
  have hup := (units_below A 1 0 q 53).mpr (by simpa using hb)
  have hlo : 2 ^ 52 * unitsDen 1 0 q ≤ unitsNum A 0 q := by
    rcases hnb with h | h
    · omega
    · refine Nat.le_of_not_lt fun x => h ?_
      have := (units_below A 1 0 q 52).mp x
      simpa using this
  by_cases h0 : q ≤ 0
  · have e1 : unitsDen 1 0 q = 1 := by unfold unitsDen; rw [show (q - 0).toNat = 0 by omega]
    have e2 : unitsNum A 0 q = A * 2 ^ (-q).toNat := by unfold unitsNum; rw [show (0 - q).toNat = (-q).toNat by omega]
    rw [e1, e2] at hround hup hlo
    have e3 : nearest (A * 2 ^ (-q).toNat) 1 = A * 2 ^ (-q).toNat := by
      have := nearest_exact (B := 1) (A * 2 ^ (-q).toNat) (by decide)
      rwa [Nat.mul_one] at this
    rw [e3] at hround
    generalize hX : A * 2 ^ (-q).toNat = X at *
    refine ⟨X, q, ?_, by omega, by omega, by omega, Or.inl ⟨h0, hX.symm⟩⟩
    rw [hround]
    unfold settle bound
    rw [hp, if_pos (by omega), if_pos (by omega)]
  · obtain ⟨u, hu⟩ : ∃ u : Nat, q = (u : Int) + 1 := ⟨(q - 1).toNat, by omega⟩
    have e1 : unitsDen 1 0 q = 2 ^ (u + 1) := by unfold unitsDen; rw [show (q - 0).toNat = u + 1 by omega, Nat.one_mul]
    have e2 : unitsNum A 0 q = A := by unfold unitsNum; rw [show (0 - q).toNat = 0 by omega, Nat.pow_zero, Nat.mul_one]
    rw [e1, e2] at hround hup hlo
    have hpos : 0 < 2 ^ (u + 1) := Nat.two_pow_pos _
    have m1 := nearest_ge hpos hlo
    have m2 := nearest_le hpos (Nat.le_of_lt hup)
    have hA3 : 2 ^ 53 ≤ A := by
      have : 2 ^ 52 * 2 ^ (u + 1) = 2 ^ 53 * 2 ^ u := by rw [Nat.pow_succ]; omega
      have h1 := Nat.two_pow_pos u
      omega
    generalize nearest A (2 ^ (u + 1)) = m at *
    rw [hround]
    unfold settle bound
    rw [hp, ht]
    by_cases hm : m < 2 ^ 53
    · rw [if_pos hm, if_pos (by omega)]
      exact ⟨m, q, rfl, by omega, hm, by omega, Or.inr ⟨by omega, m1, hA3⟩⟩
    · rw [if_neg hm, if_pos (by omega)]
      exact ⟨2 ^ 52, q + 1, rfl, by decide, by decide, by omega, Or.inr ⟨by omega, Nat.le_refl _, hA3⟩⟩
/-- a quotient of two whole numbers as doubles -/
theorem own_quot {x y : UInt64} {s : Bool} {c d : Nat} {q r : Int} {A n : Nat} (hx : val64 x = .fin s c q) (hq : q ≤ 0) (hc : c = A * 2 ^ (-q).toNat) (hy : val64 y = .fin false d r) (hd : 0 < d) (hd2 : d < 2 ^ 53) (hr : r ≤ 13) (hn : 0 < n) (hn2 : n < 2 ^ 64)
    (hor : (r ≤ 0 ∧ d = n * 2 ^ (-r).toNat) ∨ (0 < r ∧ 2 ^ 52 ≤ d ∧ 2 ^ 53 ≤ n)) :
    ∃ N : Nat, 0 < N ∧ N < 2 ^ 70 ∧ (N = n ∨ (2 ^ 53 ≤ n ∧ 2 ^ 53 ≤ N)) ∧ val64 (FP.ddiv x y) = roundRatio b64 s A N 0 := by
  have e : val64 (FP.ddiv x y) = roundRatio b64 s c d (q - r) := by
    show val64 (ddiv x y) = _
    rw [val64_ddiv, hx, hy]
    show (if d = 0 then _ else roundRatio b64 (s != false) c d (q - r)) = _
    rw [if_neg (by omega)]
    cases s <;> rfl
  rcases hor with ⟨r1, r2⟩ | ⟨r1, r2, r3⟩
  · refine ⟨n, hn, by omega, Or.inl rfl, ?_⟩
    rw [e]
    refine roundRatio_congr hd hn ?_
    rw [hc, r2]
    have e1 : (-q).toNat + (q - r - 0).toNat = (-r).toNat + (0 - (q - r)).toNat := by omega
    calc A * 2 ^ (-q).toNat * n * 2 ^ (q - r - 0).toNat = A * n * 2 ^ ((-q).toNat + (q - r - 0).toNat) := by rw [Nat.pow_add]; ac_rfl
      _ = A * n * 2 ^ ((-r).toNat + (0 - (q - r)).toNat) := by rw [e1]
      _ = A * (n * 2 ^ (-r).toNat) * 2 ^ (0 - (q - r)).toNat := by rw [Nat.pow_add]; ac_rfl
  · have hp : 2 ^ r.toNat ≤ 2 ^ 13 := Nat.pow_le_pow_right (by decide) (by omega)
    have hp1 : 2 ^ 1 ≤ 2 ^ r.toNat := Nat.pow_le_pow_right (by decide) (by omega)
    refine ⟨d * 2 ^ r.toNat, Nat.mul_pos hd (Nat.two_pow_pos _), ?_, Or.inr ⟨r3, ?_⟩, ?_⟩
    · exact Nat.lt_of_lt_of_le (Nat.mul_lt_mul_of_lt_of_le hd2 hp (by decide)) (by decide)
    · exact Nat.le_trans (by decide) (Nat.mul_le_mul r2 hp1)
    · rw [e]
      refine roundRatio_congr hd (Nat.mul_pos hd (Nat.two_pow_pos _)) ?_
      rw [hc, show (q - r - 0).toNat = 0 by omega, show (0 - (q - r)).toNat = (-q).toNat + r.toNat by omega, Nat.pow_add]
      simp only [Nat.pow_zero, Nat.mul_one]
      ac_rfl
theorem own_l2d (a : Int64) : val64 (FP.l2d a) = roundRatio b64 (decide (a.toInt < 0)) a.toInt.natAbs 1 0 := val64_l2d a
/-- Math.round((double) a / (double) n), |a| below 2^52, n above 0 -/
theorem own_rounded {a n : Int64} (h1 : -4503599627370496 < a.toInt) (h2 : a.toInt < 4503599627370496) (hn : 0 < n.toInt) : (roundOf (FP.ddiv (FP.l2d a) (FP.l2d n))).toInt = (2 * a.toInt + n.toInt) / (2 * n.toInt) := by
  have hn2 := n.toInt_lt
  have hs : decide (n.toInt < 0) = false := decide_eq_false (by omega)
  obtain ⟨d, r, y1, y2, y3, y4, y5⟩ := own_whole (s := false) (A := n.toInt.natAbs) (by omega) (by omega)
  have hy : val64 (FP.l2d n) = .fin false d r := by rw [own_l2d, hs, y1]
  by_cases ha : a.toInt = 0
  · have hx : val64 (FP.l2d a) = .fin false 0 b64.qmin := by rw [own_l2d, ha]; rfl
    have hD : val64 (FP.ddiv (FP.l2d a) (FP.l2d n)) = .fin false 0 b64.qmin := by
      show val64 (ddiv _ _) = _
      rw [val64_ddiv, hx, hy]
      show (if d = 0 then _ else roundRatio b64 (false != false) 0 d (b64.qmin - r)) = _
      rw [if_neg (by omega)]
      rfl
    rw [own_round_small hD (by decide) (by decide), ha]
    exact (Int.ediv_eq_zero_of_lt (by omega) (by omega)).symm
  · obtain ⟨c, q, x1, x2, x3, x4, x5⟩ := own_whole (s := decide (a.toInt < 0)) (A := a.toInt.natAbs) (by omega) (by omega)
    have hx : val64 (FP.l2d a) = .fin (decide (a.toInt < 0)) c q := by rw [own_l2d, x1]
    have x6 : q ≤ 0 ∧ c = a.toInt.natAbs * 2 ^ (-q).toNat := by
      rcases x5 with x5 | x5
      · exact x5
      · omega
    obtain ⟨N, n1, n2, n3, n4⟩ := own_quot hx x6.1 x6.2 hy y2 y3 y4 (n := n.toInt.natAbs) (by omega) (by omega) y5
    have hsg : signed (decide (a.toInt < 0)) a.toInt.natAbs = a.toInt := by
      unfold signed
      by_cases hh : a.toInt < 0
      · simp only [hh, decide_true, if_true]; omega
      · simp only [hh, decide_false]; simp; omega
    rw [own_round_ratio (by omega) (by omega) n1 n2 n4, hsg]
    rcases n3 with n3 | ⟨n5, n6⟩
    · rw [n3, show ((n.toInt.natAbs : Nat) : Int) = n.toInt by omega]
    · rw [Int.ediv_eq_zero_of_lt (by omega) (by omega), Int.ediv_eq_zero_of_lt (by omega) (by omega)]
theorem own_form (s : Bool) (A B : Nat) (e : Int) : (∃ c q, roundRatio b64 s A B e = .fin s c q) ∨ roundRatio b64 s A B e = .inf s := by
  unfold roundRatio
  split
  · exact Or.inl ⟨_, _, rfl⟩
  · unfold roundAt settle bound
    split
    · split
      · exact Or.inl ⟨_, _, rfl⟩
      · exact Or.inr rfl
    · split
      · exact Or.inl ⟨_, _, rfl⟩
      · exact Or.inr rfl
theorem own_l2d_fin (a : Int64) : ∃ c q, val64 (FP.l2d a) = .fin (decide (a.toInt < 0)) c q := by
  have h1 := a.toInt_lt
  have h2 := a.le_toInt
  by_cases ha : a.toInt = 0
  · exact ⟨0, b64.qmin, by rw [own_l2d, ha]; rfl⟩
  · obtain ⟨c, q, x1, -⟩ := own_whole (s := decide (a.toInt < 0)) (A := a.toInt.natAbs) (by omega) (by omega)
    exact ⟨c, q, by rw [own_l2d, x1]⟩
abbrev own_K : UInt64 := 4741671816366391296
theorem own_Kd : own_K = FP.l2d 1000000000 := by decide +kernel
theorem own_dmul_form (a : Int64) : (∃ c q, val64 (FP.dmul (FP.l2d a) own_K) = .fin (decide (a.toInt < 0)) c q) ∨ val64 (FP.dmul (FP.l2d a) own_K) = .inf (decide (a.toInt < 0)) := by
  obtain ⟨c, q, h⟩ := own_l2d_fin a
  obtain ⟨k, r, h2⟩ : ∃ k r, val64 own_K = .fin false k r := by
    obtain ⟨k, r, h2⟩ := own_l2d_fin 1000000000
    exact ⟨k, r, by rw [own_Kd, h2]; rfl⟩
  have e : val64 (FP.dmul (FP.l2d a) own_K) = roundRatio b64 (decide (a.toInt < 0)) (c * k) 1 (q + r) := by
    show val64 (dmul _ _) = _
    rw [val64_dmul, h, h2]
    show roundRatio b64 (decide (a.toInt < 0) != false) (c * k) 1 (q + r) = _
    cases decide (a.toInt < 0) <;> rfl
  rw [e]
  exact own_form _ _ _ _
theorem own_l2d_pos {n : Int64} (hn : 0 < n.toInt) : ∃ d r, val64 (FP.l2d n) = .fin false d r ∧ 0 < d := by
  have hn2 := n.toInt_lt
  have hs : decide (n.toInt < 0) = false := decide_eq_false (by omega)
  obtain ⟨d, r, y1, y2, -⟩ := own_whole (s := false) (A := n.toInt.natAbs) (by omega) (by omega)
  exact ⟨d, r, by rw [own_l2d, hs, y1], y2⟩
theorem own_ddiv_form {x : UInt64} {s : Bool} (hx : (∃ c q, val64 x = .fin s c q) ∨ val64 x = .inf s) {n : Int64} (hn : 0 < n.toInt) : (∃ c q, val64 (FP.ddiv x (FP.l2d n)) = .fin s c q) ∨ val64 (FP.ddiv x (FP.l2d n)) = .inf s := by
  obtain ⟨d, r, hy, hd⟩ := own_l2d_pos hn
  have e : val64 (FP.ddiv x (FP.l2d n)) = quotient b64 (val64 x) (.fin false d r) := by
    show val64 (ddiv _ _) = _
    rw [val64_ddiv, hy]
  rw [e]
  rcases hx with ⟨c, q, h⟩ | h
  · rw [h]
    have e2 : quotient b64 (.fin s c q) (.fin false d r) = roundRatio b64 s c d (q - r) := by
      show (if d = 0 then _ else roundRatio b64 (s != false) c d (q - r)) = _
      rw [if_neg (by omega)]
      cases s <;> rfl
    rw [e2]
    exact own_form _ _ _ _
  · rw [h]
    refine Or.inr ?_
    show Datum.inf (s != false) = _
    cases s <;> rfl
theorem own_nn {x : UInt64} {s : Bool} (h : (∃ c q, val64 x = .fin s c q) ∨ val64 x = .inf s) : Jvm.Free.Fl.NoNaN64 x := by
  rw [Jvm.Free.Fl.noNaN64_no]
  show decide (val64 x = .nan) = false
  refine decide_eq_false ?_
  rcases h with ⟨c, q, h⟩ | h <;> rw [h] <;> exact Datum.noConfusion
def own_ps (c n : Int64) : Int64 := if 0 < n then roundOf (FP.ddiv (FP.dmul (FP.l2d c) own_K) (FP.l2d n)) else 0
theorem own_gt0 {n : Int64} : 0 < n ↔ 0 < n.toInt := by rw [Int64.lt_iff_toInt_lt]; exact Iff.rfl
theorem own_lt0 {n : Int64} : n < 0 ↔ n.toInt < 0 := by rw [Int64.lt_iff_toInt_lt]; exact Iff.rfl
/-- the sign of the rate, all longs -/
theorem own_ps_pos {c n : Int64} (hc : 0 < c) : ¬ own_ps c n < 0 := by
  unfold own_ps
  split
  · rename_i hn
    have hs : decide (c.toInt < 0) = false := decide_eq_false (by have := own_gt0.mp hc; omega)
    have := (own_round_sign (own_ddiv_form (own_dmul_form c) (own_gt0.mp hn))).1 hs
    rw [own_lt0]; omega
  · decide
theorem own_ps_neg {c n : Int64} (hc : c < 0) : ¬ 0 < own_ps c n := by
  unfold own_ps
  split
  · rename_i hn
    have hs : decide (c.toInt < 0) = true := decide_eq_true (own_lt0.mp hc)
    have := (own_round_sign (own_ddiv_form (own_dmul_form c) (own_gt0.mp hn))).2 hs
    rw [own_gt0]; omega
  · decide
theorem own_mul9 {c : Int64} (h1 : -4194304 ≤ c.toInt) (h2 : c.toInt < 4194304) : (c * 1000000000).toInt = c.toInt * 1000000000 := by
  have e : (1000000000 : Int64).toInt = 1000000000 := by decide
  rw [Int64.toInt_mul, e]
  exact Int.bmod_eq_of_le_mul_two (by omega) (by omega)
theorem own_ps_val {c n : Int64} (h1 : -4194304 ≤ c.toInt) (h2 : c.toInt < 4194304) (hn : 0 < n) : (own_ps c n).toInt = (2 * (c.toInt * 1000000000) + n.toInt) / (2 * n.toInt) := by
  have hm := own_mul9 h1 h2
  have e9 : (1000000000 : Int64).toInt = 1000000000 := by decide
  unfold own_ps
  rw [if_pos hn, own_Kd, Jvm.RoadKit.dmul_k (A := 4194304) (B := 1000000000) (by omega) (by omega) (by omega) (by omega) (by decide) (by decide) (by decide) (by rintro ⟨-, h⟩; exact absurd h (by decide)) (by rintro ⟨h, -⟩; exact absurd h (by decide))]
  rw [own_rounded (by omega) (by omega) (own_gt0.mp hn), hm]
theorem own_ps_zero {n : Int64} : own_ps 0 n = 0 := by
  by_cases hn : 0 < n
  · have h := own_ps_val (c := 0) (n := n) (by decide) (by decide) hn
    have hn2 := own_gt0.mp hn
    have e : (0 : Int64).toInt = 0 := by decide
    rw [e, show 2 * ((0 : Int) * 1000000000) + n.toInt = n.toInt by omega, Int.ediv_eq_zero_of_lt (by omega) (by omega)] at h
    exact Int64.toInt_inj.mp (h.trans e.symm)
  · unfold own_ps; rw [if_neg hn]
theorem own_ps_gt {c n : Int64} (hn : 0 < n) : own_ps c n = roundOf (FP.ddiv (FP.dmul (FP.l2d c) own_K) (FP.l2d n)) := if_pos hn
theorem own_ps_z {c n : Int64} (h1 : ¬ 0 < c) (h2 : ¬ c < 0) : own_ps c n = 0 := by
  have a1 : ¬ 0 < c.toInt := fun x => h1 (own_gt0.mpr x)
  have a2 : ¬ c.toInt < 0 := fun x => h2 (own_lt0.mpr x)
  have e0 : (0 : Int64).toInt = 0 := by decide
  have e : c = 0 := Int64.toInt_inj.mp (by rw [e0]; omega)
  rw [e]
  exact own_ps_zero
theorem own_ps_le {c n : Int64} (hn : ¬ 0 < n) : own_ps c n = 0 := by unfold own_ps; rw [if_neg hn]
/-- the law's own reckoning -/
theorem own_div64 {a n : Int64} (hn : 0 < n.toInt) : (a / n).toInt = a.toInt.tdiv n.toInt := by
  have h1 := a.toInt_lt
  have h2 := a.le_toInt
  have h3 : (a.toInt.tdiv n.toInt).natAbs ≤ a.toInt.natAbs := by rw [Int.natAbs_tdiv]; exact Nat.div_le_self ..
  rw [Int64.toInt_div]
  by_cases hs : a.toInt.tdiv n.toInt = 9223372036854775808
  · exfalso
    have h4 : a.toInt < 0 := by omega
    have h5 := Int.mul_tdiv_add_tmod a.toInt n.toInt
    have h6 := Int.lt_tmod_of_pos a.toInt hn
    rw [hs] at h5
    omega
  · exact Int.bmod_eq_of_le_mul_two (by omega) (by omega)
theorem own_core {a n q r : Int} (hn : 0 < n) (h : n * q + r = a) (h0 : 0 ≤ r) (h1 : r < n) : (2 * a + n) / (2 * n) = if r < n - r then q else q + 1 := by
  have hc : n * q = q * n := Int.mul_comm ..
  split
  · rw [own_fl hn]
    have e1 : (2 * q - 1) * n = 2 * (q * n) - n := by rw [Int.sub_mul, Int.one_mul, Int.mul_assoc]
    have e2 : (2 * q + 1) * n = 2 * (q * n) + n := by rw [Int.add_mul, Int.one_mul, Int.mul_assoc]
    rw [e1, e2]
    omega
  · rw [own_fl hn]
    have e1 : (2 * (q + 1) - 1) * n = 2 * (q * n) + n := by rw [show 2 * (q + 1) - 1 = 2 * q + 1 by omega, Int.add_mul, Int.one_mul, Int.mul_assoc]
    have e2 : (2 * (q + 1) + 1) * n = 2 * (q * n) + 3 * n := by rw [show 2 * (q + 1) + 1 = 2 * q + 3 by omega, Int.add_mul, Int.mul_assoc]
    rw [e1, e2]
    omega
def own_rr (c n : Int64) : Int64 :=
  if 0 < n then
    (if (c * 1000000000) % n < 0 then (if (c * 1000000000) % n + n < n - ((c * 1000000000) % n + n) then (c * 1000000000) / n - 1 else (c * 1000000000) / n - 1 + 1)
      else (if (c * 1000000000) % n < n - (c * 1000000000) % n then (c * 1000000000) / n else (c * 1000000000) / n + 1))
  else 0
theorem own_rr_eq {c n : Int64} (h1 : -4194304 ≤ c.toInt) (h2 : c.toInt < 4194304) : own_ps c n = own_rr c n := by
  by_cases hn : 0 < n
  · refine Int64.toInt_inj.mp ?_
    rw [own_ps_val h1 h2 hn]
    unfold own_rr
    rw [if_pos hn]
    have hm := own_mul9 h1 h2
    have hn0 := own_gt0.mp hn
    have hn1 := n.toInt_lt
    have hd := own_div64 (a := c * 1000000000) hn0
    have hr : ((c * 1000000000) % n).toInt = (c * 1000000000).toInt.tmod n.toInt := Int64.toInt_mod ..
    have hdm := Int.mul_tdiv_add_tmod (c * 1000000000).toInt n.toInt
    rw [← hd, ← hr] at hdm
    have b1 : ((c * 1000000000) % n).toInt < n.toInt := by rw [hr]; exact Int.tmod_lt_of_pos _ hn0
    have b2 : -n.toInt < ((c * 1000000000) % n).toInt := by rw [hr]; exact Int.lt_tmod_of_pos _ hn0
    have b3 : ((c * 1000000000) / n).toInt.natAbs ≤ (c * 1000000000).toInt.natAbs := by rw [hd, Int.natAbs_tdiv]; exact Nat.div_le_self ..
    rw [← hm]
    rw [hm] at b3
    generalize c * 1000000000 = a at *
    generalize a / n = q at *
    generalize a % n = r at *
    have e1 : (1 : Int64).toInt = 1 := by decide
    have s1 : (q - 1).toInt = q.toInt - 1 := by rw [own_sub64 (by rw [e1]; omega) (by rw [e1]; omega), e1]
    have s2 : (q + 1).toInt = q.toInt + 1 := by rw [own_add64 (by rw [e1]; omega) (by rw [e1]; omega), e1]
    have s3 : (q - 1 + 1).toInt = q.toInt := by rw [own_add64 (by rw [e1, s1]; omega) (by rw [e1, s1]; omega), e1, s1]; omega
    by_cases hr0 : r < 0
    · have hr1 := own_lt0.mp hr0
      have s4 : (r + n).toInt = r.toInt + n.toInt := own_add64 (by omega) (by omega)
      have s5 : (n - (r + n)).toInt = n.toInt - (r.toInt + n.toInt) := by rw [own_sub64 (by rw [s4]; omega) (by rw [s4]; omega), s4]
      rw [if_pos hr0, own_core hn0 (q := q.toInt - 1) (r := r.toInt + n.toInt) (by rw [← hdm, Int.mul_sub]; omega) (by omega) (by omega)]
      have hlt : r + n < n - (r + n) ↔ r.toInt + n.toInt < n.toInt - (r.toInt + n.toInt) := by rw [Int64.lt_iff_toInt_lt, s4, s5]
      by_cases hc : r + n < n - (r + n)
      · rw [if_pos hc, if_pos (hlt.mp hc), s1]
      · rw [if_neg hc, if_neg (fun x => hc (hlt.mpr x)), s3]; omega
    · have hr1 : ¬ r.toInt < 0 := fun x => hr0 (own_lt0.mpr x)
      have s5 : (n - r).toInt = n.toInt - r.toInt := own_sub64 (by omega) (by omega)
      rw [if_neg hr0, own_core hn0 (q := q.toInt) (r := r.toInt) hdm (by omega) (by omega)]
      have hlt : r < n - r ↔ r.toInt < n.toInt - r.toInt := by rw [Int64.lt_iff_toInt_lt, s5]
      by_cases hc : r < n - r
      · rw [if_pos hc, if_pos (hlt.mp hc)]
      · rw [if_neg hc, if_neg (fun x => hc (hlt.mpr x)), s2]
  · rw [own_ps_le hn]
    unfold own_rr
    rw [if_neg hn]
/-- the law's shifts -/
theorem own_shr_rng {u z : Int64} {B : Int} (hB : 0 < B) (h1 : -B ≤ u.toInt) (h2 : u.toInt < B) (z0 : 0 ≤ z.toInt) (z1 : z.toInt < 64) : -B ≤ (u >>> z).toInt ∧ (u >>> z).toInt < B := by
  rw [own_sar _ _ z0 z1]
  have hp : (0 : Int) < 2 ^ z.toInt.toNat := Int.pow_pos (by decide)
  constructor
  · refine (Int.le_ediv_iff_mul_le hp).mpr ?_
    have : -B * 2 ^ z.toInt.toNat ≤ -B * 1 := Int.mul_le_mul_of_nonpos_left (by omega) (by omega)
    omega
  · refine Int.ediv_lt_of_lt_mul hp ?_
    have : B * 1 ≤ B * 2 ^ z.toInt.toNat := Int.mul_le_mul_of_nonneg_left (by omega) (by omega)
    omega
theorem own_amt (y : Int32) : 0 ≤ (y &&& 0x3f).toInt64.toInt ∧ (y &&& 0x3f).toInt64.toInt < 64 := by
  have h := own_andm y 63 (by decide)
  have e : (y &&& 0x3f).toInt64.toInt = (y &&& Int32.ofNat 63).toInt := Int32.toInt_toInt64 _
  rw [e]
  omega
theorem own_c23 (x : Int64) (y : Int32) : -4194304 ≤ (((x <<< ((41 : Int32) &&& 0x3f).toInt64) >>> ((41 : Int32) &&& 0x3f).toInt64) >>> (y &&& 0x3f).toInt64).toInt ∧ (((x <<< ((41 : Int32) &&& 0x3f).toInt64) >>> ((41 : Int32) &&& 0x3f).toInt64) >>> (y &&& 0x3f).toInt64).toInt < 4194304 := by
  have e : ((41 : Int32) &&& 0x3f).toInt64.toInt = 41 := by decide
  have hy := own_amt y
  have h : -4194304 ≤ ((x <<< ((41 : Int32) &&& 0x3f).toInt64) >>> ((41 : Int32) &&& 0x3f).toInt64).toInt ∧ ((x <<< ((41 : Int32) &&& 0x3f).toInt64) >>> ((41 : Int32) &&& 0x3f).toInt64).toInt < 4194304 := by
    generalize x <<< ((41 : Int32) &&& 0x3f).toInt64 = w
    rw [own_sar _ _ (by rw [e]; decide) (by rw [e]; decide), e]
    have h1 := w.toInt_lt
    have h2 := w.le_toInt
    show -4194304 ≤ w.toInt / 2199023255552 ∧ w.toInt / 2199023255552 < 4194304
    omega
  exact own_shr_rng (by decide) h.1 h.2 hy.1 hy.2
end OwnFl
open Jvm Jvm.ClassFile Sem Op Lib Jvm.Free Jvm.Stand Jvm.LawKit Jvm.RoadKit Bundle Jvm.Pilot.@@N@@.Jvm.D
section OwnKit
variable {p : Program} {l : Launch} {e : Env} {R : Room} {s : State} {m : MethodId} {args : Array Value} {below : List Frame} {meth : Method} {c : Code} {T : State} {locs : List Loc} {cells slots : Nat} {Z : State} {a0 : Array Value} {h h0 : Heap}
/-- the run comes from S to an end of which Q speaks -/
def Gl (p : Program) (e : Env) (below : List Frame) (s : State) (Q : Option Value → Heap → List Loc → Prop) (cc kk : Nat) (S : State) : Prop :=
  ∃ t o, Steps p.tables e below S t ∧ t.status = .running ∧ Ended t below o ∧ ∃ v L, o = .returned v ∧ Q v t.heap L ∧ FrameEnd s o t L cc kk
theorem Gl.pre {Q : Option Value → Heap → List Loc → Prop} {cc kk : Nat} {S S' : State} (st : ∀ t, Steps p.tables e below S' t → Steps p.tables e below S t) (k : Gl p e below s Q cc kk S') : Gl p e below s Q cc kk S := by
  obtain ⟨t, o, h1, h2⟩ := k
  exact ⟨t, o, st _ h1, h2⟩
theorem Gl.ret {Q : Option Value → Heap → List Loc → Prop} {cc kk : Nat} {S : State} (X : Stand p l e R s m args below meth c T locs cells slots) {v : Option Value} (hv : meth.sig.returnType = none → v = none) (hlocks : meth.locks = false) (hQ : Q v T.heap locs) (hc : cells ≤ cc) (hk : slots ≤ kk)
    (st : ∀ fs, (∀ (f : JFrame) (acts : List Action), f.method = m → f.locked = none → f.entered = [] → (doReturn e (T.setTop f) acts v).1 = T.setFrames fs) → Steps p.tables e below S (T.setFrames fs)) : Gl p e below s Q cc kk S := by
  obtain ⟨fs, hr, hrun, hended, hW, hsame⟩ := X.leave (v := v) hv hlocks
  exact ⟨_, _, st fs hr, hrun, hended, _, _, rfl, hQ, ⟨_, rfl⟩, hW, hsame.mono hc hk⟩
theorem Gl.fin {Q : Option Value → Heap → List Loc → Prop} {cc kk : Nat} {S : State} (X : Stand p l e R s m args below meth c T locs cells slots) {v : Option Value} (hv : meth.sig.returnType = none → v = none) (hlocks : meth.locks = false) (hQ : Q v h locs) (eT : T.heap = h) (hc : cells ≤ cc) (hk : slots ≤ kk)
    (st : ∀ fs, (∀ (f : JFrame) (acts : List Action), f.method = m → f.locked = none → f.entered = [] → (doReturn e (T.setTop f) acts v).1 = T.setFrames fs) → Steps p.tables e below S (T.setFrames fs)) : Gl p e below s Q cc kk S :=
  Gl.ret X hv hlocks (by rw [eT]; exact hQ) hc hk st
abbrev OMet (l : Launch) (Z : State) (y : MethodName) (bytes : ByteArray) (maxL : Nat) (ret : Option FieldType) (ws : List Jvm.Cond) (rm : Room) (as' : Array Value) (h0 : Heap) (Q : Option Value → Heap → List Loc → Prop) : Prop :=
  MetFree l y (head1 (Jvm.Cond.code y bytes maxL ret :: ws) rm) (fun a U => a = as' ∧ Z.Warmed39 U.vm ∧ U.heap = h0) (fun _ _ _ _ _ => True) (fun _ U o U' => ∃ v L, o = .returned v ∧ Q v U'.heap L ∧ FrameEnd U o U' L rm.cells rm.slots)
theorem own_body {y : MethodName} {bytes : ByteArray} {maxL : Nat} {ret : Option FieldType} {ws : List Jvm.Cond} {rm : Room} {as' : Array Value} {Q : Option Value → Heap → List Loc → Prop} (hx : plainFor y = true)
    (H : ∀ p e s m below meth c s₁, BodyLoose p l y (head1 (Jvm.Cond.code y bytes maxL ret :: ws) rm) bytes maxL ret e s m as' below meth c s₁ → c.maxLocals = maxL → Z.Warmed39 s.vm → s₁.heap = h0 → Gl p e below s Q rm.cells rm.slots (s₁.setTop (entryFrame m as' maxL))) :
    OMet l Z y bytes maxL ret ws rm as' h0 Q := by
  refine MetFree.of_bodySF hx hisR ?_
  intro p e s m args below meth c s₁ Bd hml0 hP hK
  obtain ⟨rfl, hZ, hh⟩ := hP
  exact H p e s m below meth c s₁ Bd hml0 hZ (by rw [← hh, Bd.state]; rfl)
/-- an int is returned -/
theorem own_retI (X : Stand p l e R s m args below meth c T locs cells slots) (hx : p.tables.exec = Jvm.exec) {pc : Nat} {Ls : Array Slot} {z : Int32} {rest : List Value} (hret : meth.sig.returnType = some .int) (hd : decode c.code pc = .ok (.ireturn, 1)) {fs : List Frame}
    (hl : ∀ (f : JFrame) (acts : List Action), f.method = m → f.locked = none → f.entered = [] → (doReturn e (T.setTop f) acts (some (.int z))).1 = T.setFrames fs) : Steps p.tables e below (T.setTop (mkF m pc Ls (.int z :: rest))) (T.setFrames fs) :=
  retOut X hx hret rfl (Or.inl ⟨rfl, Or.inl rfl, z, rfl⟩) hd hl
theorem own_retJ (X : Stand p l e R s m args below meth c T locs cells slots) (hx : p.tables.exec = Jvm.exec) {pc : Nat} {Ls : Array Slot} {z : Int64} {rest : List Value} (hret : meth.sig.returnType = some .long) (hd : decode c.code pc = .ok (.lreturn, 1)) {fs : List Frame}
    (hl : ∀ (f : JFrame) (acts : List Action), f.method = m → f.locked = none → f.entered = [] → (doReturn e (T.setTop f) acts (some (.long z))).1 = T.setFrames fs) : Steps p.tables e below (T.setTop (mkF m pc Ls (.long z :: rest))) (T.setFrames fs) :=
  retOut X hx hret rfl (Or.inr (Or.inl ⟨rfl, rfl, z, rfl⟩)) hd hl
theorem own_retD (X : Stand p l e R s m args below meth c T locs cells slots) (hx : p.tables.exec = Jvm.exec) {pc : Nat} {Ls : Array Slot} {z : UInt64} {rest : List Value} (hret : meth.sig.returnType = some .double) (hd : decode c.code pc = .ok (.dreturn, 1)) {fs : List Frame}
    (hl : ∀ (f : JFrame) (acts : List Action), f.method = m → f.locked = none → f.entered = [] → (doReturn e (T.setTop f) acts (some (.double z))).1 = T.setFrames fs) : Steps p.tables e below (T.setTop (mkF m pc Ls (.double z :: rest))) (T.setFrames fs) :=
  retOut X hx hret rfl (Or.inr (Or.inr (Or.inl ⟨rfl, rfl, z, rfl⟩))) hd hl
theorem own_retR (X : Stand p l e R s m args below meth c T locs cells slots) (hx : p.tables.exec = Jvm.exec) {pc : Nat} {Ls : Array Slot} {w : Value} {t : FieldType} {rest : List Value} (hret : meth.sig.returnType = some t) (ht : t.isReference = true) (hn : narrow t w = w) (hw : w.isRef = true) (hd : decode c.code pc = .ok (.areturn, 1)) {fs : List Frame}
    (hl : ∀ (f : JFrame) (acts : List Action), f.method = m → f.locked = none → f.entered = [] → (doReturn e (T.setTop f) acts (some w)).1 = T.setFrames fs) : Steps p.tables e below (T.setTop (mkF m pc Ls (w :: rest))) (T.setFrames fs) :=
  retOut X hx hret hn (Or.inr (Or.inr (Or.inr (Or.inr ⟨rfl, ht, hw⟩)))) hd hl
/-- a static method by its contract -/
theorem own_callS (X : Stand p l e R s m args below meth c T locs cells slots) (hx : p.tables.exec = Jvm.exec) (hZ : Z.Warmed39 s.vm) {own : String} {index : Nat} {y : MethodName} {bytes : ByteArray} {maxL : Nat} {ret : Option FieldType} {rm : Room} {Q : Option Value → Heap → List Loc → Prop}
    (hown : s.vm.findClass own = some m.cls) (w1 : (Jvm.Cond.methodLink own index y).before a0 Z = true) (w2 : (Jvm.Cond.static y).before a0 Z = true) (w3 : (Jvm.Cond.initialized y.cls).before a0 Z = true) (w4 : (Jvm.Cond.code y bytes maxL ret).before a0 Z = true)
    (hy : y.cls ≠ "java/lang/invoke/MethodHandle" ∧ y.cls ≠ "java/lang/invoke/VarHandle") {argsL rest : List Value} (hM : OMet l Z y bytes maxL ret [] rm argsL.toArray h Q) {W : Nat} (hf : rm.frames + 1 ≤ R.frames) (hl : W + (maxL + 11) + rm.locals ≤ R.locals) (hc : cells + rm.cells ≤ R.cells) (hs : slots + rm.slots ≤ R.slots)
    (eT : T.heap = h) {pc : Nat} {Ls : Array Slot} (hsize : Ls.size = c.maxLocals) (hlen : ∀ sig, parseMethodDescriptor y.desc = some sig → argsL.length = sig.parameters.length) (hW : (rest.map fun v => v.category).sum ≤ W) (hd : decode c.code pc = .ok (.invokestatic index, 3)) :
    ∃ (v : Option Value) (T' : State) (L : List Loc), Stand p l e R s m args below meth c T' (locs ++ L) (cells + rm.cells) (slots + rm.slots) ∧ Q v T'.heap L ∧
      ∀ t, Steps p.tables e below (T'.setTop (mkF m (pc + 3) Ls (v.toList ++ rest))) t → Steps p.tables e below (T.setTop (mkF m pc Ls (argsL.reverse ++ rest))) t := by
  obtain ⟨v, _, ⟨T', L', k', n'⟩, -, X', ⟨L, hQ, hl', hy', hz'⟩, st⟩ := Jvm.LawKit.callS X hx (y := y) hown (mvT hZ w1) (mvT hZ w2) (mvT hZ w3) (mvT hZ w4) hy (backOf (W := W) hM hZ w4 w3 hf hl) (g := mkF m pc Ls (argsL.reverse ++ rest)) rfl hsize (argsL := argsL) (rest := rest) hlen rfl (by show 2 * 0 + _ ≤ _; omega) hd (fun _ _ => ⟨rfl, eT, hc, hs⟩)
  dsimp only [Pt.U, Pt.locs, Pt.cells, Pt.slots] at X' hl' hy' hz' st hQ
  subst hl' hy' hz'
  exact ⟨v, T', L, X', hQ, st⟩
/-- a constructor by its contract -/
theorem own_callI (X : Stand p l e R s m args below meth c T locs cells slots) (hx : p.tables.exec = Jvm.exec) (hZ : Z.Warmed39 s.vm) {own : String} {index : Nat} {y : MethodName} {bytes : ByteArray} {maxL : Nat} {rm : Room} {Q : Option Value → Heap → List Loc → Prop} (hy1 : y.name = "<init>")
    (hown : s.vm.findClass own = some m.cls) (w1 : (Jvm.Cond.methodLink own index y).before a0 Z = true) (w2 : (Jvm.Cond.instanceMethod y).before a0 Z = true) (w3 : (Jvm.Cond.initialized y.cls).before a0 Z = true) (w4 : (Jvm.Cond.code y bytes maxL none).before a0 Z = true)
    (hy : y.cls ≠ "java/lang/invoke/MethodHandle" ∧ y.cls ≠ "java/lang/invoke/VarHandle") {a : Addr} {argsL rest : List Value} (hM : OMet l Z y bytes maxL none [] rm (.ref a :: argsL).toArray h Q) {W : Nat} (hf : rm.frames + 1 ≤ R.frames) (hl : W + (maxL + 11) + rm.locals ≤ R.locals) (hc : cells + rm.cells ≤ R.cells) (hs : slots + rm.slots ≤ R.slots)
    (eT : T.heap = h) {pc : Nat} {Ls : Array Slot} (hsize : Ls.size = c.maxLocals) (hlen : ∀ sig, parseMethodDescriptor y.desc = some sig → argsL.length = sig.parameters.length) (hW : (rest.map fun v => v.category).sum ≤ W) (hd : decode c.code pc = .ok (.invokespecial index, 3)) :
    ∃ (v : Option Value) (T' : State) (L : List Loc), Stand p l e R s m args below meth c T' (locs ++ L) (cells + rm.cells) (slots + rm.slots) ∧ Q v T'.heap L ∧
      ∀ t, Steps p.tables e below (T'.setTop (mkF m (pc + 3) Ls (v.toList ++ rest))) t → Steps p.tables e below (T.setTop (mkF m pc Ls (argsL.reverse ++ .ref a :: rest))) t := by
  obtain ⟨v, _, ⟨T', L', k', n'⟩, -, X', ⟨L, hQ, hl', hy', hz'⟩, st⟩ := X.specialBack hx (y := y) hy1 hown (mvT hZ w1) (mvT hZ w2) (mvT hZ w4) hy (backOf (W := W) hM hZ w4 w3 hf hl) (g := mkF m pc Ls (argsL.reverse ++ .ref a :: rest)) rfl hsize (Steps.refl _) (a := a) (argsL := argsL) (rest := rest) hlen rfl (by show 2 * 0 + _ ≤ _; omega) hd (fun _ _ => ⟨rfl, eT, hc, hs⟩)
  dsimp only [Pt.U, Pt.locs, Pt.cells, Pt.slots] at X' hl' hy' hz' st hQ
  subst hl' hy' hz'
  exact ⟨v, T', L, X', hQ, fun t k => st.trans k⟩
/-- an instance method by its contract, the receiver's class known -/
theorem own_callV (X : Stand p l e R s m args below meth c T locs cells slots) (hx : p.tables.exec = Jvm.exec) (hZ : Z.Warmed39 s.vm) {own C : String} {index : Nat} {y z : MethodName} {bytes : ByteArray} {maxL : Nat} {ret : Option FieldType} {rm : Room} {Q : Option Value → Heap → List Loc → Prop}
    (hown : s.vm.findClass own = some m.cls) (w1 : (Jvm.Cond.methodLink own index y).before a0 Z = true) (wd : (Jvm.Cond.declares y).before a0 Z = true) (hnf : NotFace s y) (ws : (Jvm.Cond.selects C y z).before a0 Z = true) (w2 : (Jvm.Cond.instanceMethod z).before a0 Z = true) (w3 : (Jvm.Cond.initialized z.cls).before a0 Z = true) (w4 : (Jvm.Cond.code z bytes maxL ret).before a0 Z = true)
    (hy : y.cls ≠ "java/lang/invoke/MethodHandle" ∧ y.cls ≠ "java/lang/invoke/VarHandle") {a : Addr} (E : Exa Z h a C) {argsL rest : List Value} (hM : OMet l Z z bytes maxL ret [] rm (.ref a :: argsL).toArray h Q) {W : Nat} (hf : rm.frames + 1 ≤ R.frames) (hl : W + (maxL + 11) + rm.locals ≤ R.locals) (hc : cells + rm.cells ≤ R.cells) (hs : slots + rm.slots ≤ R.slots)
    (eT : T.heap = h) {pc : Nat} {Ls : Array Slot} (hsize : Ls.size = c.maxLocals) (hlen : ∀ sig, parseMethodDescriptor y.desc = some sig → argsL.length = sig.parameters.length) (hW : (rest.map fun v => v.category).sum ≤ W) (hd : decode c.code pc = .ok (.invokevirtual index, 3)) :
    ∃ (v : Option Value) (T' : State) (L : List Loc), Stand p l e R s m args below meth c T' (locs ++ L) (cells + rm.cells) (slots + rm.slots) ∧ Q v T'.heap L ∧
      ∀ t, Steps p.tables e below (T'.setTop (mkF m (pc + 3) Ls (v.toList ++ rest))) t → Steps p.tables e below (T.setTop (mkF m pc Ls (argsL.reverse ++ .ref a :: rest))) t := by
  obtain ⟨cB, kB, q1, q2, q3⟩ := isOf hZ eT E
  obtain ⟨v, _, ⟨T', L', k', n'⟩, -, X', ⟨L, hQ, hl', hy', hz'⟩, st⟩ := X.virtualBack hx (y := y) (z := z) hown (mvT hZ w1) (mvT hZ wd) hnf (mvT hZ ws) (mvT hZ w2) hy (backOf (W := W) hM hZ w4 w3 hf hl) q1 q3 (g := mkF m pc Ls (argsL.reverse ++ .ref a :: rest)) rfl hsize (Steps.refl _) (argsL := argsL) (rest := rest) hlen rfl (by show 2 * 0 + _ ≤ _; omega) hd (fun _ _ => ⟨rfl, eT, hc, hs⟩)
  dsimp only [Pt.U, Pt.locs, Pt.cells, Pt.slots] at X' hl' hy' hz' st hQ
  subst hl' hy' hz'
  exact ⟨v, T', L, X', hQ, fun t k => st.trans k⟩
/-- an inherited instance method: the link names a class that doesn't declare it -/
theorem own_callU (X : Stand p l e R s m args below meth c T locs cells slots) (hx : p.tables.exec = Jvm.exec) (hZ : Z.Warmed39 s.vm) {own C owner : String} {index : Nat} {y z : MethodName} {bytes : ByteArray} {maxL : Nat} {ret : Option FieldType} {rm : Room} {Q : Option Value → Heap → List Loc → Prop}
    (hown : s.vm.findClass own = some m.cls) (w1 : (Jvm.Cond.methodLink own index y).before a0 Z = true) (wm : (Jvm.Cond.sameMethod y.cls owner y.name y.desc).before a0 Z = true) (wd : (Jvm.Cond.declares ⟨owner, y.name, y.desc⟩).before a0 Z = true) (ws : (Jvm.Cond.selects C y z).before a0 Z = true) (w2 : (Jvm.Cond.instanceMethod z).before a0 Z = true) (w3 : (Jvm.Cond.initialized z.cls).before a0 Z = true) (w4 : (Jvm.Cond.code z bytes maxL ret).before a0 Z = true)
    (hy : owner ≠ "java/lang/invoke/MethodHandle" ∧ owner ≠ "java/lang/invoke/VarHandle") {a : Addr} (E : Exa Z h a C) {argsL rest : List Value} (hM : OMet l Z z bytes maxL ret [] rm (.ref a :: argsL).toArray h Q) {W : Nat} (hf : rm.frames + 1 ≤ R.frames) (hl : W + (maxL + 11) + rm.locals ≤ R.locals) (hc : cells + rm.cells ≤ R.cells) (hs : slots + rm.slots ≤ R.slots)
    (eT : T.heap = h) {pc : Nat} {Ls : Array Slot} (hsize : Ls.size = c.maxLocals) (hlen : ∀ sig, parseMethodDescriptor y.desc = some sig → argsL.length = sig.parameters.length) (hW : (rest.map fun v => v.category).sum ≤ W) (hd : decode c.code pc = .ok (.invokevirtual index, 3)) :
    ∃ (v : Option Value) (T' : State) (L : List Loc), Stand p l e R s m args below meth c T' (locs ++ L) (cells + rm.cells) (slots + rm.slots) ∧ Q v T'.heap L ∧
      ∀ t, Steps p.tables e below (T'.setTop (mkF m (pc + 3) Ls (v.toList ++ rest))) t → Steps p.tables e below (T.setTop (mkF m pc Ls (argsL.reverse ++ .ref a :: rest))) t := by
  obtain ⟨cB, kB, q1, q2, q3⟩ := isOf hZ eT E
  obtain ⟨v, _, ⟨T', L', k', n'⟩, -, X', ⟨L, hQ, hl', hy', hz'⟩, st⟩ := X.virtualBackUp hx (x := y) (y := z) (owner := owner) hown (mvT hZ w1) (mvT hZ wm) (mvT hZ wd) hy (mvT hZ ws) (mvT hZ w2) (backOf (W := W) hM hZ w4 w3 hf hl) q1 q3 (g := mkF m pc Ls (argsL.reverse ++ .ref a :: rest)) rfl hsize (Steps.refl _) (argsL := argsL) (rest := rest) hlen rfl (by show 2 * 0 + _ ≤ _; omega) hd (fun _ _ => ⟨rfl, eT, hc, hs⟩)
  dsimp only [Pt.U, Pt.locs, Pt.cells, Pt.slots] at X' hl' hy' hz' st hQ
  subst hl' hy' hz'
  exact ⟨v, T', L, X', hQ, fun t k => st.trans k⟩
/-- an interface's method by the contract of the body that the receiver's class selects -/
theorem own_callF (X : Stand p l e R s m args below meth c T locs cells slots) (hx : p.tables.exec = Jvm.exec) (hZ : Z.Warmed39 s.vm) {own C : String} {index count : Nat} {y z : MethodName} {bytes : ByteArray} {maxL : Nat} {ret : Option FieldType} {rm : Room} {Q : Option Value → Heap → List Loc → Prop}
    (hown : s.vm.findClass own = some m.cls) (w1 : (Jvm.Cond.methodLink own index y).before a0 Z = true) (wd : (Jvm.Cond.declares y).before a0 Z = true) (wf : (Jvm.Cond.interfaceMethod y.cls y.cls y.name y.desc).before args s = true) (ws : (Jvm.Cond.selects C y z).before a0 Z = true) (w2 : (Jvm.Cond.instanceMethod z).before a0 Z = true) (wp : (Jvm.Cond.publicMethod z).before a0 Z = true) (wu : (Jvm.Cond.unhidden C y.name y.desc).before a0 Z = true) (wc : (Jvm.Cond.castable C y.cls).before a0 Z = true) (w3 : (Jvm.Cond.initialized z.cls).before a0 Z = true) (w4 : (Jvm.Cond.code z bytes maxL ret).before a0 Z = true)
    (hy : y.cls ≠ "java/lang/invoke/MethodHandle" ∧ y.cls ≠ "java/lang/invoke/VarHandle") {a : Addr} (E : Exa Z h a C) {argsL rest : List Value} (hM : OMet l Z z bytes maxL ret [] rm (.ref a :: argsL).toArray h Q) {W : Nat} (hf : rm.frames + 1 ≤ R.frames) (hl : W + (maxL + 11) + rm.locals ≤ R.locals) (hc : cells + rm.cells ≤ R.cells) (hs : slots + rm.slots ≤ R.slots)
    (eT : T.heap = h) {pc : Nat} {Ls : Array Slot} (hsize : Ls.size = c.maxLocals) (hlen : ∀ sig, parseMethodDescriptor y.desc = some sig → argsL.length = sig.parameters.length) (hW : (rest.map fun v => v.category).sum ≤ W) (hd : decode c.code pc = .ok (.invokeinterface index count, 5)) :
    ∃ (v : Option Value) (T' : State) (L : List Loc), Stand p l e R s m args below meth c T' (locs ++ L) (cells + rm.cells) (slots + rm.slots) ∧ Q v T'.heap L ∧
      ∀ t, Steps p.tables e below (T'.setTop (mkF m (pc + 5) Ls (v.toList ++ rest))) t → Steps p.tables e below (T.setTop (mkF m pc Ls (argsL.reverse ++ .ref a :: rest))) t := by
  obtain ⟨cB, kB, q1, q2, q3⟩ := isOf hZ eT E
  obtain ⟨v, _, ⟨T', L', k', n'⟩, -, X', ⟨L, hQ, hl', hy', hz'⟩, st⟩ := X.interfaceBack hx (xi := y) (y := z) hown (mvT hZ w1) (mvT hZ wd) wf (mvT hZ ws) (mvT hZ w2) (mvT hZ wp) (mvT hZ wu) (mvT hZ wc) hy (backOf (W := W) hM hZ w4 w3 hf hl) q1 q2 q3 (g := mkF m pc Ls (argsL.reverse ++ .ref a :: rest)) rfl hsize (Steps.refl _) (argsL := argsL) (rest := rest) hlen rfl (by show 2 * 0 + _ ≤ _; omega) hd (fun _ _ => ⟨rfl, eT, hc, hs⟩)
  dsimp only [Pt.U, Pt.locs, Pt.cells, Pt.slots] at X' hl' hy' hz' st hQ
  subst hl' hy' hz'
  exact ⟨v, T', L, X', hQ, fun t k => st.trans k⟩
theorem own_hc {T : State} {h : Heap} {a : Addr} {cl : Cell} (q : T.heap = h) (r : h[a]? = some cl) : T.heap[a]? = some cl := by rw [q]; exact r
/-- what a Bool is as Java's int -/
def b2i (b : Bool) : Int32 := if b then 1 else 0
theorem b2i_t {b : Bool} (h : b = true) : b2i b = 1 := by simp [b2i, h]
theorem b2i_f {b : Bool} (h : b = false) : b2i b = 0 := by simp [b2i, h]
theorem b2i_inj {a b : Bool} : b2i a = b2i b ↔ a = b := by cases a <;> cases b <;> decide
/-- the branches' conditions in plain words -/
theorem ic_lt (x y : Int32) : if_icmp.holds .lt x y = decide (x < y) := by by_cases q : x < y <;> simp [q, tlt, flt]
theorem ic_ge (x y : Int32) : if_icmp.holds .ge x y = !decide (x < y) := by by_cases q : x < y <;> simp [q, tlt, flt]
theorem ic_gt (x y : Int32) : if_icmp.holds .gt x y = decide (y < x) := by by_cases q : y < x <;> simp [q, tlt, flt]
theorem ic_le (x y : Int32) : if_icmp.holds .le x y = !decide (y < x) := by by_cases q : y < x <;> simp [q, tlt, flt]
theorem ic_eq (x y : Int32) : if_icmp.holds .eq x y = decide (x = y) := by by_cases q : x = y <;> simp [q, teq, feq]
theorem ic_ne (x y : Int32) : if_icmp.holds .ne x y = !decide (x = y) := by by_cases q : x = y <;> simp [q, teq, feq]
theorem i0_lt (x : Int32) : ifCond.holds .lt x = decide (x < 0) := (if0 _ _).trans (ic_lt x 0)
theorem i0_ge (x : Int32) : ifCond.holds .ge x = !decide (x < 0) := (if0 _ _).trans (ic_ge x 0)
theorem i0_gt (x : Int32) : ifCond.holds .gt x = decide (0 < x) := (if0 _ _).trans (ic_gt x 0)
theorem i0_le (x : Int32) : ifCond.holds .le x = !decide (0 < x) := (if0 _ _).trans (ic_le x 0)
theorem i0_eq (x : Int32) : ifCond.holds .eq x = decide (x = 0) := (if0 _ _).trans (ic_eq x 0)
theorem i0_ne (x : Int32) : ifCond.holds .ne x = !decide (x = 0) := (if0 _ _).trans (ic_ne x 0)
theorem lw_lt (x y : Int64) : lcmpW x y < 0 ↔ x < y := by rw [lcW]; exact Jvm.RoadKit.lc_lt x y
theorem lw_gt (x y : Int64) : 0 < lcmpW x y ↔ y < x := by rw [lcW]; exact Jvm.RoadKit.lc_gt x y
theorem lw_eq (x y : Int64) : lcmpW x y = 0 ↔ x = y := by rw [lcW]; exact Jvm.RoadKit.lc_eq x y
theorem l0_lt (x y : Int64) : ifCond.holds .lt (lcmpW x y) = decide (x < y) := (i0_lt _).trans (by simp [lw_lt])
theorem l0_ge (x y : Int64) : ifCond.holds .ge (lcmpW x y) = !decide (x < y) := (i0_ge _).trans (by simp [lw_lt])
theorem l0_gt (x y : Int64) : ifCond.holds .gt (lcmpW x y) = decide (y < x) := (i0_gt _).trans (by simp [lw_gt])
theorem l0_le (x y : Int64) : ifCond.holds .le (lcmpW x y) = !decide (y < x) := (i0_le _).trans (by simp [lw_gt])
theorem l0_eq (x y : Int64) : ifCond.holds .eq (lcmpW x y) = decide (x = y) := (i0_eq _).trans (by simp [lw_eq])
theorem l0_ne (x y : Int64) : ifCond.holds .ne (lcmpW x y) = !decide (x = y) := (i0_ne _).trans (by simp [lw_eq])
theorem b0_eq (b : Bool) : ifCond.holds .eq (b2i b) = !b := by cases b <;> decide
theorem b0_ne (b : Bool) : ifCond.holds .ne (b2i b) = b := by cases b <;> decide
theorem own_t {P : Prop} [Decidable P] {u : Bool} (q : u = decide P) (hp : P) : u = true := by rw [q]; exact decide_eq_true hp
theorem own_f {P : Prop} [Decidable P] {u : Bool} (q : u = decide P) (hp : ¬ P) : u = false := by rw [q]; exact decide_eq_false hp
theorem own_nt {P : Prop} [Decidable P] {u : Bool} (q : u = !decide P) (hp : ¬ P) : u = true := by rw [q]; simp [hp]
theorem own_nf {P : Prop} [Decidable P] {u : Bool} (q : u = !decide P) (hp : P) : u = false := by rw [q]; simp [hp]
theorem own_bt {u b : Bool} (q : u = b) (hp : b = true) : u = true := q.trans hp
theorem own_bf {u b : Bool} (q : u = b) (hp : b = false) : u = false := q.trans hp
theorem own_nbt {u b : Bool} (q : u = !b) (hp : b = false) : u = true := by rw [q, hp]; rfl
theorem own_nbf {u b : Bool} (q : u = !b) (hp : b = true) : u = false := by rw [q, hp]; rfl
theorem own_retN (X : Stand p l e R s m args below meth c T locs cells slots) (hx : p.tables.exec = Jvm.exec) {pc : Nat} {Ls : Array Slot} {z z' : Int32} {t : FieldType} {rest : List Value} (hret : meth.sig.returnType = some t) (ht : t = .boolean ∨ t = .byte ∨ t = .char ∨ t = .short) (hn : nar t z = z')
    (hd : decode c.code pc = .ok (.ireturn, 1)) {fs : List Frame} (hl : ∀ (f : JFrame) (acts : List Action), f.method = m → f.locked = none → f.entered = [] → (doReturn e (T.setTop f) acts (some (.int z'))).1 = T.setFrames fs) :
    Steps p.tables e below (T.setTop (mkF m pc Ls (.int z :: rest))) (T.setFrames fs) := by
  subst hn
  exact retN X hx hret ht hd hl
theorem own_nar_b2i (b : Bool) : nar .boolean (b2i b) = b2i b := by cases b <;> decide
theorem own_narrow_b2i (b : Bool) : narrow .boolean (.int (b2i b)) = .int (b2i b) := by cases b <;> rfl
theorem own_fits_b2i (b : Bool) : fits .boolean (.int (b2i b)) = true := by cases b <;> rfl
theorem own_nar_i2b (x : Int32) : nar .byte x.toInt8.toInt32 = x.toInt8.toInt32 := by simp [nar]
theorem own_lrem (x y : Int64) : x - x / y * y = x % y := by
  apply Int64.toInt_inj.mp
  have h1 := Int64.le_toInt (x % y)
  have h2 := Int64.toInt_lt (x % y)
  have e : x.toInt - y.toInt * x.toInt.tdiv y.toInt = x.toInt.tmod y.toInt := (Int.tmod_def _ _).symm
  rw [Int64.toInt_sub, Int64.toInt_mul, Int64.toInt_div, Int.bmod_mul_bmod, Int.sub_bmod_bmod, Int.mul_comm (x.toInt.tdiv y.toInt), e, ← Int64.toInt_mod]
  exact Int.bmod_eq_of_le_mul_two (by omega) (by omega)
/-- getfield by an entry that is resolved already -/
theorem own_getFR (X : Stand p l e R s m args below meth c T locs cells slots) (hx : p.tables.exec = Jvm.exec) (hZ : Z.Warmed39 s.vm) {own O n d : String} {index : Nat} (hown : s.vm.findClass own = some m.cls) (w : (Jvm.Cond.fieldRef own index O n d).before a0 Z = true)
    (eT : T.heap = h) {a : Addr} {v : Value} (F : Fld Z h a O n d v) {g : JFrame} (hg : g.method = m) {rest : List Value} (hs : g.stack = .ref a :: rest) (hd : decode c.code g.pc = .ok (.getfield index, 3)) : ∃ T', Stand p l e R s m args below meth c T' locs cells slots ∧ T'.heap = h ∧ ∀ target, Steps p.tables e below (T'.setTop { g with pc := g.pc + 3, stack := v :: rest }) target → Steps p.tables e below (T.setTop g) target := by
  have hZT : Z.Warmed39 T.vm := wtrans hZ X.warmed
  have w' := Cond.fieldRef_warmed39 hZT w
  have hcur : (Z.setVm T.vm).vm.findClass own = some m.cls := (X.warmed.alike.findClass own _).trans hown
  obtain ⟨c', k', i', f', h1, hready⟩ := Cond.fieldRef_spec (s := Z.setVm T.vm) hcur w'
  obtain ⟨cell, cf, k, i, f, g1, g2, g3, g4, -, -, g7⟩ := F
  obtain ⟨k2, hi, -⟩ := State.fieldFound?_setVm (s := Z) hZT.alike g2
  have q := Option.some.inj (h1.symm.trans hi)
  simp only [Prod.mk.injEq] at q
  obtain ⟨rfl, -, -, rfl⟩ := q
  exact ⟨T, X, eT, fun target kt => (X.getfieldR hx hg hready g3 hs (by rw [eT]; exact g1) g4 g7 hd (Steps.refl _)).trans kt⟩
/-- the case's words on statics and fields, at the start -/
theorem own_sx {C n d K : String} (w1 : (Jvm.Cond.initialized C).before args s = true) (w2 : (Jvm.Cond.laysStatic C n d).before args s = true) (q : (Jvm.Cond.exactly (Term.static C n d) K).value args s none s [] = some true) : ∃ a : Addr, (Term.static C n d).eval args s none [] s = some (.ref a) ∧ Sta s s.heap C n d (.ref a) ∧ Exa s s.heap a K := by
  obtain ⟨a, ev⟩ := exa_v q
  exact ⟨a, ev, Sta.start ev (Or.inr ⟨w1, w2⟩), Exa.start ev q⟩
theorem own_fi {t : Term} {a : Addr} {C n d : String} {k : Int32} (ev : t.eval args s none [] s = some (.ref a)) (q : (Jvm.Cond.eq (Term.field t C n d) (Term.int k)).value args s none s [] = some true) : Fld s s.heap a C n d (.int k) := by
  obtain ⟨x, y, h1, h2, h3, h4⟩ := cmp_v (Or.inl q)
  have h5 : y = .int k := (Option.some.inj (h2.symm.trans (Term.int_eval k)) : _)
  subst h5
  obtain ⟨z, rfl⟩ : ∃ z, x = .int z := h4
  have e2 := h1
  rw [fld_at ev] at h1
  simp [Cond.value, e2, h2] at q
  subst q
  exact Fld.start h1
theorem own_fx {t : Term} {a : Addr} {C n d K : String} (ev : t.eval args s none [] s = some (.ref a)) (q : (Jvm.Cond.exactly (Term.field t C n d) K).value args s none s [] = some true) : ∃ b : Addr, (Term.field t C n d).eval args s none [] s = some (.ref b) ∧ Fld s s.heap a C n d (.ref b) ∧ Exa s s.heap b K := by
  obtain ⟨b, ev2⟩ := exa_v q
  exact ⟨b, ev2, Fld.start ((fld_at ev).symm.trans ev2), Exa.start ev2 q⟩
/-- a class that the chain of superclasses doesn't meet: its own word is 'instantiable' -/
theorem own_ns_root {Z : State} {a0 : Array Value} {O K : String} {n : Nat} (w : (Jvm.Cond.noSuperclass O).before a0 Z = true) (wi : (Jvm.Cond.instantiable K n).before a0 Z = true) (hn : O ≠ K) : NS Z O K := by
  obtain ⟨c, k, h1, h2, h3, -, -⟩ := Cond.noSuperclass_spec w
  obtain ⟨t, kt, g1, -⟩ := Cond.instantiable_spec wi
  have ne := ids_ne h1 g1 hn
  refine ⟨c, t, h1, g1, fun fuel => ?_⟩
  cases fuel with
  | zero => rfl
  | succ f => simp [Vm.isSubclassAux, ne, h2, h3]
theorem own_ns_no {Z : State} {a0 : Array Value} {C S K : String} {n : Nat} (w : (Jvm.Cond.superclass C S).before a0 Z = true) (wi : (Jvm.Cond.instantiable K n).before a0 Z = true) (q : NS Z C K) (hn : C ≠ K) : ∃ c t, Z.vm.findClass C = some c ∧ Z.vm.findClass K = some t ∧ Z.vm.assignable c t = false := by
  obtain ⟨c, t, h0, g0, n3⟩ := q
  obtain ⟨p, k, kp, h1, h2, h3, h4, h5, -, h7⟩ := Cond.superclass_spec h0 w
  obtain ⟨t', kt, g1, g2, g3, g4, -, -⟩ := Cond.instantiable_spec wi
  cases g0.symm.trans g1
  have g5 : kt.isInterface = false := by simp only [Bool.or_eq_false_iff] at g4; exact g4.1
  have ne := ids_ne h0 g0 hn
  refine ⟨c, t, h0, g0, ?_⟩
  show Z.vm.assignableAux (255 + 1) c t = false
  simp [Vm.assignableAux, ne, h2, g2, h5, g3, g5, Vm.isSubclass, n3]
/-- a static's cell isn't written by one who writes objects alone -/
theorem own_sta_keep {Z : State} {h h' : Heap} {C n d : String} {v : Value} {ws : List Addr} (F : Sta Z h C n d v) (K : Keep h h' ws) (q : ∀ x ∈ ws, ∃ C', Exa Z h x C') : Sta Z h' C n d v := by
  obtain ⟨cf, i, k, f, st, cell, h1, h2, h3, h4, h5, h6, h7⟩ := F
  refine ⟨cf, i, k, f, st, cell, h1, h2, h3, h4, K.2.1 st cell h5 (fun r => ?_), h6, h7⟩
  obtain ⟨C', c', k', g1, -, -, g4, -⟩ := q st r
  rw [h5] at g1
  cases g1
  rw [h6] at g4
  cases g4
theorem own_ne32 {x y : Int32} (h : x ≠ y) : Value.int x ≠ Value.int y := fun q => h (Value.int.inj q)
end OwnKit
section OwnRound
variable {p : Program} {l : Launch} {e : Env} {R : Room} {s : State} {m : MethodId} {args : Array Value} {below : List Frame} {meth : Method} {c : Code} {T : State} {locs : List Loc} {cells slots : Nat} {Z : State} {a0 : Array Value} {h : Heap}
/-- Math.round(double), by the library's law of it -/
theorem own_callRound (X : Stand p l e R s m args below meth c T locs cells slots) (hx : p.tables.exec = Jvm.exec) (hZ : Z.Warmed39 s.vm) {own : String} {index : Nat} {bytes : ByteArray} (hbytes : bytes = Jvm.Free.Hsc.MRound.yB) (hown : s.vm.findClass own = some m.cls)
    (w1 : (Jvm.Cond.methodLink own index Jvm.Free.Hsc.MRound.yN).before a0 Z = true) (w2 : (Jvm.Cond.static Jvm.Free.Hsc.MRound.yN).before a0 Z = true) (w3 : (Jvm.Cond.initialized "java/lang/Math").before a0 Z = true) (w4 : (Jvm.Cond.code Jvm.Free.Hsc.MRound.yN bytes 10 (some .long)).before a0 Z = true)
    (u1 : (Jvm.Cond.methodLink "java/lang/Math" 79 Jvm.doubleToRawLongBitsName).before a0 Z = true) (u2 : (Jvm.Cond.native Jvm.doubleToRawLongBitsName).before a0 Z = true) (u3 : (Jvm.Cond.static Jvm.doubleToRawLongBitsName).before a0 Z = true) (u4 : (Jvm.Cond.initialized "java/lang/Double").before a0 Z = true)
    (k1 : (Jvm.Cond.constantLong "java/lang/Math" 87 9218868437227405312).before a0 Z = true) (k2 : (Jvm.Cond.constantLong "java/lang/Math" 89 1074).before a0 Z = true) (k3 : (Jvm.Cond.constantLong "java/lang/Math" 91 (-64)).before a0 Z = true) (k4 : (Jvm.Cond.constantLong "java/lang/Math" 93 4503599627370495).before a0 Z = true) (k5 : (Jvm.Cond.constantLong "java/lang/Math" 95 4503599627370496).before a0 Z = true)
    (eT : T.heap = h) {b : UInt64} {rest : List Value} {W : Nat} (hf : 2 ≤ R.frames) (hl : W + (10 + 11) + 40 ≤ R.locals) (hc : cells ≤ R.cells) (hs : slots ≤ R.slots) {pc : Nat} {Ls : Array Slot} (hsize : Ls.size = c.maxLocals) (hlen : ∀ sig, parseMethodDescriptor "(D)J" = some sig → [Value.double b].length = sig.parameters.length) (hW : (rest.map fun v => v.category).sum ≤ W) (hd : decode c.code pc = .ok (.invokestatic index, 3)) :
    ∃ T' : State, Stand p l e R s m args below meth c T' locs cells slots ∧ T'.heap = h ∧ ∀ t, Steps p.tables e below (T'.setTop (mkF m (pc + 3) Ls (.long (Jvm.Free.Hsc.MRound.roundOf b) :: rest))) t → Steps p.tables e below (T.setTop (mkF m pc Ls (.double b :: rest))) t := by
  subst hbytes
  have htab : Jvm.Free.Hsc.MRound.tab.before args s = true := by
    simp only [Jvm.Free.Hsc.MRound.tab, Cond.before_and, Bool.and_eq_true]
    exact ⟨mvT hZ w4, mvT hZ u1, mvT hZ u2, mvT hZ u3, mvT hZ u4, mvT hZ k1, mvT hZ k2, mvT hZ k3, mvT hZ k4, mvT hZ k5⟩
  obtain ⟨v, _, ⟨T', L', k', n'⟩, -, X', ⟨⟨e1, e2, e3, e4⟩, hv⟩, st⟩ := Jvm.LawKit.callS X hx (y := Jvm.Free.Hsc.MRound.yN) hown (mvT hZ w1) (mvT hZ w2) (mvT hZ w3) (mvT hZ w4) ⟨by decide, by decide⟩ (Jvm.Free.Hsc.MRound.pays (W := W) hf hl htab (mvT hZ w3)) (g := mkF m pc Ls (.double b :: rest)) rfl hsize (argsL := [.double b]) (rest := rest) hlen rfl (by show 2 * 0 + (rest.map fun v => v.category).sum ≤ W; omega) hd (fun _ _ => ⟨hc, hs, b, rfl⟩)
  dsimp only [Pt.U, Pt.locs, Pt.cells, Pt.slots] at X' e1 e2 e3 e4 st
  subst e2 e3 e4
  have hv2 := hv b rfl
  subst hv2
  exact ⟨T', X', e1.trans eT, st⟩
end OwnRound
/-! CUT -/
theorem pn_com_example_porthcurno_porthcurno_tools_Figures : plainName "com/example/porthcurno/porthcurno/tools/Figures" = true := by first | (simp [plainName, overriddenIn]; done) | decide +kernel
theorem ef_rm1 (m : MethodId) (x0 : Int64) (x1 : Int64) : entryFrame m #[(.long x0), (.long x1)] 4 = mkF m 0 #[.val (.long x0), .second, .val (.long x1), .second] [] := by first | (simp [entryFrame, mkF, argsToLocals, Value.category]; done) | rfl
theorem d1_0 : decode prog_55_method_4_code 0 = .ok (.lload_n 2, 1) := by decide +kernel
theorem d1_1 : decode prog_55_method_4_code 1 = .ok (.lconst 0, 1) := by decide +kernel
theorem d1_2 : decode prog_55_method_4_code 2 = .ok (.lcmp, 1) := by decide +kernel
theorem d1_3 : decode prog_55_method_4_code 3 = .ok (.ifCond .le 18, 3) := by decide +kernel
theorem d1_6 : decode prog_55_method_4_code 6 = .ok (.lload_n 0, 1) := by decide +kernel
theorem d1_7 : decode prog_55_method_4_code 7 = .ok (.l2d, 1) := by decide +kernel
theorem d1_8 : decode prog_55_method_4_code 8 = .ok (.ldc2_w 17, 3) := by decide +kernel
theorem d1_11 : decode prog_55_method_4_code 11 = .ok (.dmul, 1) := by decide +kernel
theorem d1_12 : decode prog_55_method_4_code 12 = .ok (.lload_n 2, 1) := by decide +kernel
theorem d1_13 : decode prog_55_method_4_code 13 = .ok (.l2d, 1) := by decide +kernel
theorem d1_14 : decode prog_55_method_4_code 14 = .ok (.ddiv, 1) := by decide +kernel
theorem d1_15 : decode prog_55_method_4_code 15 = .ok (.invokestatic 33, 3) := by decide +kernel
theorem pd__D_J : parseMethodDescriptor "(D)J" = some ⟨[.double], some .long⟩ := by decide +kernel
theorem d1_18 : decode prog_55_method_4_code 18 = .ok (.goto 4, 3) := by decide +kernel
theorem d1_22 : decode prog_55_method_4_code 22 = .ok (.lreturn, 1) := by decide +kernel
theorem d1_21 : decode prog_55_method_4_code 21 = .ok (.lconst 0, 1) := by decide +kernel
def Q1 (Z : State) (c1 : Int64) (n1 : Int64) (h0 : Heap) (n0 : Nat) (v : Option Value) (h : Heap) (L : List Loc) : Prop := v = some (.long (own_ps c1 n1)) ∧ Fr n0 L ∧ h = h0
set_option maxRecDepth 65536 in
set_option maxHeartbeats 40000000 in
theorem rm1 (l : Launch) (Z : State) (a0 : Array Value) (hw : ∀ d ∈ tables_1, d.before a0 Z = true) (ws : List Jvm.Cond) (c1 : Int64) (n1 : Int64) (h0 : Heap) (n0 : Nat) (Z0 : n0 ≤ h0.size) :
    OMet l Z (⟨"com/example/porthcurno/porthcurno/tools/Figures", "perSecond", "(JJ)J"⟩ : MethodName) prog_55_method_4_code 4 (some .long) ws ({ frames := 2, cells := 0, slots := 0, locals := 61 } : Room) #[(.long c1), (.long n1)] h0 (Q1 Z c1 n1 h0 n0) := by
  refine own_body (plainFor_of_name pn_com_example_porthcurno_porthcurno_tools_Figures) ?_
  intro p e s m below meth c s₁ Bd hml0 hZ e0
  have hx := Bd.exec
  have hby := Bd.bytes
  have hml : c.maxLocals = 4 := hml0
  have hown : s.vm.findClass "com/example/porthcurno/porthcurno/tools/Figures" = some m.cls := findClass_of_methodNamed Bd.named
  have hnm := (name_of_methodNamed Bd.named Bd.method).1
  have X0 : Stand p l e ({ frames := 2, cells := 0, slots := 0, locals := 61 } : Room) s m #[(.long c1), (.long n1)] below meth c s₁ [] 0 0 := Stand.of_body Bd
  have N0 := Fr.nil n0
  have K0 : Keep h0 h0 [] := Keep.refl _ _
  rw [ef_rm1]
  refine Gl.pre (S' := s₁.setTop (mkF m 3 #[.val (.long c1), .second, .val (.long n1), .second] [(.int (lcmpW n1 (0 : Int64)))])) (fun t kt => ?_) ?_
  · show Steps p.tables e below (s₁.setTop (mkF m 0 #[.val (.long c1), .second, .val (.long n1), .second] [])) _
    refine XS.lloadN X0.here hx rfl (hb hby d1_0) rfl ?_
    show Steps p.tables e below (s₁.setTop (mkF m 1 #[.val (.long c1), .second, .val (.long n1), .second] [(.long n1)])) _
    refine XS.lconst X0.here hx rfl (hb hby d1_1) ?_
    show Steps p.tables e below (s₁.setTop (mkF m 2 #[.val (.long c1), .second, .val (.long n1), .second] [(.long (0 : Int64)), (.long n1)])) _
    refine XS.lcmp X0.here hx rfl (hb hby d1_2) rfl ?_
    exact kt
  by_cases hc3 : (0 : Int64) < n1
  · obtain ⟨T101, X101, e101, st101⟩ := own_callRound X0 hx hZ (bytes := jdk_29_method_22_code) rfl hown (hw _ (List.mem_of_getElem? (i := 5) rfl)) (hw _ (List.mem_of_getElem? (i := 6) rfl)) (hw _ (List.mem_of_getElem? (i := 7) rfl)) (hw _ (List.mem_of_getElem? (i := 8) rfl)) (hw _ (List.mem_of_getElem? (i := 9) rfl)) (hw _ (List.mem_of_getElem? (i := 12) rfl)) (hw _ (List.mem_of_getElem? (i := 10) rfl)) (hw _ (List.mem_of_getElem? (i := 11) rfl)) (hw _ (List.mem_of_getElem? (i := 13) rfl)) (hw _ (List.mem_of_getElem? (i := 14) rfl)) (hw _ (List.mem_of_getElem? (i := 15) rfl)) (hw _ (List.mem_of_getElem? (i := 16) rfl)) (hw _ (List.mem_of_getElem? (i := 17) rfl)) e0 (b := (FP.ddiv (FP.dmul (FP.l2d c1) (4741671816366391296 : UInt64)) (FP.l2d n1))) (rest := []) (W := 0) (by decide) (by decide) (by decide) (by decide) (Ls := #[.val (.long c1), .second, .val (.long n1), .second]) (by rw [hml]; rfl) (lenOf pd__D_J rfl) (Nat.le_of_eq rfl) (hb hby d1_15)
    refine Gl.fin X101 (v := some (.long (Jvm.Free.Hsc.MRound.roundOf (FP.ddiv (FP.dmul (FP.l2d c1) (4741671816366391296 : UInt64)) (FP.l2d n1))))) (fun h => by rw [Bd.returns] at h; cases h) Bd.notSynchronized ?_ e101 (by decide) (by decide) (fun fs hr => ?_)
    · exact ⟨congrArg (fun z => some (Value.long z)) (own_ps_gt hc3).symm, N0, rfl⟩
    · show Steps p.tables e below (s₁.setTop (mkF m 3 #[.val (.long c1), .second, .val (.long n1), .second] [(.int (lcmpW n1 (0 : Int64)))])) _
      refine XS.ifNo X0.here hx rfl (hb hby d1_3) rfl (own_nf (l0_le _ _) hc3) ?_
      show Steps p.tables e below (s₁.setTop (mkF m 6 #[.val (.long c1), .second, .val (.long n1), .second] [])) _
      refine XS.lloadN X0.here hx rfl (hb hby d1_6) rfl ?_
      show Steps p.tables e below (s₁.setTop (mkF m 7 #[.val (.long c1), .second, .val (.long n1), .second] [(.long c1)])) _
      refine XS.l2dS X0.here hx rfl (hb hby d1_7) rfl rfl ?_
      show Steps p.tables e below (s₁.setTop (mkF m 8 #[.val (.long c1), .second, .val (.long n1), .second] [(.double (FP.l2d c1))])) _
      refine X0.ldc2DoubleC hx hown (mvT hZ (hw _ (List.mem_of_getElem? (i := 4) rfl))) (g := (mkF m 8 #[.val (.long c1), .second, .val (.long n1), .second] [(.double (FP.l2d c1))])) rfl (hb hby d1_8) _ ?_
      show Steps p.tables e below (s₁.setTop (mkF m 11 #[.val (.long c1), .second, .val (.long n1), .second] [(.double (4741671816366391296 : UInt64)), (.double (FP.l2d c1))])) _
      refine XS.dmulS X0.here hx rfl (hb hby d1_11) rfl (own_nn (own_dmul_form _)) rfl ?_
      show Steps p.tables e below (s₁.setTop (mkF m 12 #[.val (.long c1), .second, .val (.long n1), .second] [(.double (FP.dmul (FP.l2d c1) (4741671816366391296 : UInt64)))])) _
      refine XS.lloadN X0.here hx rfl (hb hby d1_12) rfl ?_
      show Steps p.tables e below (s₁.setTop (mkF m 13 #[.val (.long c1), .second, .val (.long n1), .second] [(.long n1), (.double (FP.dmul (FP.l2d c1) (4741671816366391296 : UInt64)))])) _
      refine XS.l2dS X0.here hx rfl (hb hby d1_13) rfl rfl ?_
      show Steps p.tables e below (s₁.setTop (mkF m 14 #[.val (.long c1), .second, .val (.long n1), .second] [(.double (FP.l2d n1)), (.double (FP.dmul (FP.l2d c1) (4741671816366391296 : UInt64)))])) _
      refine XS.ddivS X0.here hx rfl (hb hby d1_14) rfl (own_nn (own_ddiv_form (own_dmul_form _) (own_gt0.mp hc3))) rfl ?_
      show Steps p.tables e below (s₁.setTop (mkF m 15 #[.val (.long c1), .second, .val (.long n1), .second] [(.double (FP.ddiv (FP.dmul (FP.l2d c1) (4741671816366391296 : UInt64)) (FP.l2d n1)))])) _
      refine st101 _ ?_
      show Steps p.tables e below (T101.setTop (mkF m 18 #[.val (.long c1), .second, .val (.long n1), .second] [(.long (Jvm.Free.Hsc.MRound.roundOf (FP.ddiv (FP.dmul (FP.l2d c1) (4741671816366391296 : UInt64)) (FP.l2d n1))))])) _
      refine XS.goto X101.here hx rfl (pc0 := 18) (pc' := 22) rfl (hb hby d1_18) (by decide) (by decide) ?_
      show Steps p.tables e below (T101.setTop (mkF m 22 #[.val (.long c1), .second, .val (.long n1), .second] [(.long (Jvm.Free.Hsc.MRound.roundOf (FP.ddiv (FP.dmul (FP.l2d c1) (4741671816366391296 : UInt64)) (FP.l2d n1))))])) _
      exact own_retJ X101 hx Bd.returns (hb hby d1_22) hr
  · refine Gl.fin X0 (v := some (.long (0 : Int64))) (fun h => by rw [Bd.returns] at h; cases h) Bd.notSynchronized ?_ e0 (by decide) (by decide) (fun fs hr => ?_)
    · exact ⟨congrArg (fun z => some (Value.long z)) (own_ps_le hc3).symm, N0, rfl⟩
    · show Steps p.tables e below (s₁.setTop (mkF m 3 #[.val (.long c1), .second, .val (.long n1), .second] [(.int (lcmpW n1 (0 : Int64)))])) _
      refine XS.ifYes X0.here hx rfl (pc0 := 3) (pc' := 21) rfl (hb hby d1_3) rfl (own_nt (l0_le _ _) hc3) (by decide) (by decide) ?_
      show Steps p.tables e below (s₁.setTop (mkF m 21 #[.val (.long c1), .second, .val (.long n1), .second] [])) _
      refine XS.lconst X0.here hx rfl (hb hby d1_21) ?_
      show Steps p.tables e below (s₁.setTop (mkF m 22 #[.val (.long c1), .second, .val (.long n1), .second] [(.long (0 : Int64))])) _
      exact own_retJ X0 hx Bd.returns (hb hby d1_22) hr
theorem pn_com_example_porthcurno_porthcurno_tools_FiguresPerSecondPinLaw : plainName "com/example/porthcurno/porthcurno/tools/FiguresPerSecondPinLaw" = true := by first | (simp [plainName, overriddenIn]; done) | decide +kernel
theorem ef_rm3 (m : MethodId) (x0 : Int64) (x1 : Int64) : entryFrame m #[(.long x0), (.long x1)] 10 = mkF m 0 #[.val (.long x0), .second, .val (.long x1), .second, .unset, .unset, .unset, .unset, .unset, .unset] [] := by first | (simp [entryFrame, mkF, argsToLocals, Value.category]; done) | rfl
theorem d3_0 : decode method_2_code 0 = .ok (.lload_n 2, 1) := by decide +kernel
theorem d3_1 : decode method_2_code 1 = .ok (.lconst 0, 1) := by decide +kernel
theorem d3_2 : decode method_2_code 2 = .ok (.lcmp, 1) := by decide +kernel
theorem d3_3 : decode method_2_code 3 = .ok (.ifCond .gt 5, 3) := by decide +kernel
theorem d3_8 : decode method_2_code 8 = .ok (.lload_n 0, 1) := by decide +kernel
theorem d3_9 : decode method_2_code 9 = .ok (.ldc2_w 7, 3) := by decide +kernel
theorem d3_12 : decode method_2_code 12 = .ok (.lmul, 1) := by decide +kernel
theorem d3_13 : decode method_2_code 13 = .ok (.lstore 4, 2) := by decide +kernel
theorem d3_15 : decode method_2_code 15 = .ok (.lload 4, 2) := by decide +kernel
theorem d3_17 : decode method_2_code 17 = .ok (.lload_n 2, 1) := by decide +kernel
theorem d3_18 : decode method_2_code 18 = .ok (.ldiv, 1) := by decide +kernel
theorem d3_19 : decode method_2_code 19 = .ok (.lstore 6, 2) := by decide +kernel
theorem d3_21 : decode method_2_code 21 = .ok (.lload 4, 2) := by decide +kernel
theorem d3_23 : decode method_2_code 23 = .ok (.lload_n 2, 1) := by decide +kernel
theorem d3_24 : decode method_2_code 24 = .ok (.lrem, 1) := by decide +kernel
theorem d3_25 : decode method_2_code 25 = .ok (.lstore 8, 2) := by decide +kernel
theorem d3_27 : decode method_2_code 27 = .ok (.lload 8, 2) := by decide +kernel
theorem d3_29 : decode method_2_code 29 = .ok (.lconst 0, 1) := by decide +kernel
theorem d3_30 : decode method_2_code 30 = .ok (.lcmp, 1) := by decide +kernel
theorem d3_31 : decode method_2_code 31 = .ok (.ifCond .ge 15, 3) := by decide +kernel
theorem d3_34 : decode method_2_code 34 = .ok (.lload 6, 2) := by decide +kernel
theorem d3_36 : decode method_2_code 36 = .ok (.lconst 1, 1) := by decide +kernel
theorem d3_37 : decode method_2_code 37 = .ok (.lsub, 1) := by decide +kernel
theorem d3_38 : decode method_2_code 38 = .ok (.lstore 6, 2) := by decide +kernel
theorem d3_40 : decode method_2_code 40 = .ok (.lload 8, 2) := by decide +kernel
theorem d3_42 : decode method_2_code 42 = .ok (.lload_n 2, 1) := by decide +kernel
theorem d3_43 : decode method_2_code 43 = .ok (.ladd, 1) := by decide +kernel
theorem d3_44 : decode method_2_code 44 = .ok (.lstore 8, 2) := by decide +kernel
theorem d3_46 : decode method_2_code 46 = .ok (.lload 8, 2) := by decide +kernel
theorem d3_48 : decode method_2_code 48 = .ok (.lload_n 2, 1) := by decide +kernel
theorem d3_49 : decode method_2_code 49 = .ok (.lload 8, 2) := by decide +kernel
theorem d3_51 : decode method_2_code 51 = .ok (.lsub, 1) := by decide +kernel
theorem d3_52 : decode method_2_code 52 = .ok (.lcmp, 1) := by decide +kernel
theorem d3_53 : decode method_2_code 53 = .ok (.ifCond .lt 10, 3) := by decide +kernel
theorem d3_63 : decode method_2_code 63 = .ok (.lload 6, 2) := by decide +kernel
theorem d3_65 : decode method_2_code 65 = .ok (.lreturn, 1) := by decide +kernel
theorem d3_56 : decode method_2_code 56 = .ok (.lload 6, 2) := by decide +kernel
theorem d3_58 : decode method_2_code 58 = .ok (.lconst 1, 1) := by decide +kernel
theorem d3_59 : decode method_2_code 59 = .ok (.ladd, 1) := by decide +kernel
theorem d3_60 : decode method_2_code 60 = .ok (.goto 5, 3) := by decide +kernel
theorem d3_6 : decode method_2_code 6 = .ok (.lconst 0, 1) := by decide +kernel
theorem d3_7 : decode method_2_code 7 = .ok (.lreturn, 1) := by decide +kernel
def Q3 (Z : State) (c1 : Int64) (n1 : Int64) (h0 : Heap) (n0 : Nat) (v : Option Value) (h : Heap) (L : List Loc) : Prop := v = some (.long (own_rr c1 n1)) ∧ Fr n0 L ∧ h = h0
set_option maxRecDepth 65536 in
set_option maxHeartbeats 40000000 in
theorem rm3 (l : Launch) (Z : State) (a0 : Array Value) (hw : ∀ d ∈ tables_1, d.before a0 Z = true) (ws : List Jvm.Cond) (c1 : Int64) (n1 : Int64) (h0 : Heap) (n0 : Nat) (Z0 : n0 ≤ h0.size) :
    OMet l Z (⟨"com/example/porthcurno/porthcurno/tools/FiguresPerSecondPinLaw", "roundedRate", "(JJ)J"⟩ : MethodName) method_2_code 10 (some .long) ws ({ frames := 0, cells := 0, slots := 0, locals := 0 } : Room) #[(.long c1), (.long n1)] h0 (Q3 Z c1 n1 h0 n0) := by
  refine own_body (plainFor_of_name pn_com_example_porthcurno_porthcurno_tools_FiguresPerSecondPinLaw) ?_
  intro p e s m below meth c s₁ Bd hml0 hZ e0
  have hx := Bd.exec
  have hby := Bd.bytes
  have hml : c.maxLocals = 10 := hml0
  have hown : s.vm.findClass "com/example/porthcurno/porthcurno/tools/FiguresPerSecondPinLaw" = some m.cls := findClass_of_methodNamed Bd.named
  have hnm := (name_of_methodNamed Bd.named Bd.method).1
  have X0 : Stand p l e ({ frames := 0, cells := 0, slots := 0, locals := 0 } : Room) s m #[(.long c1), (.long n1)] below meth c s₁ [] 0 0 := Stand.of_body Bd
  have N0 := Fr.nil n0
  have K0 : Keep h0 h0 [] := Keep.refl _ _
  rw [ef_rm3]
  refine Gl.pre (S' := s₁.setTop (mkF m 3 #[.val (.long c1), .second, .val (.long n1), .second, .unset, .unset, .unset, .unset, .unset, .unset] [(.int (lcmpW n1 (0 : Int64)))])) (fun t kt => ?_) ?_
  · show Steps p.tables e below (s₁.setTop (mkF m 0 #[.val (.long c1), .second, .val (.long n1), .second, .unset, .unset, .unset, .unset, .unset, .unset] [])) _
    refine XS.lloadN X0.here hx rfl (hb hby d3_0) rfl ?_
    show Steps p.tables e below (s₁.setTop (mkF m 1 #[.val (.long c1), .second, .val (.long n1), .second, .unset, .unset, .unset, .unset, .unset, .unset] [(.long n1)])) _
    refine XS.lconst X0.here hx rfl (hb hby d3_1) ?_
    show Steps p.tables e below (s₁.setTop (mkF m 2 #[.val (.long c1), .second, .val (.long n1), .second, .unset, .unset, .unset, .unset, .unset, .unset] [(.long (0 : Int64)), (.long n1)])) _
    refine XS.lcmp X0.here hx rfl (hb hby d3_2) rfl ?_
    exact kt
  by_cases hc3 : (0 : Int64) < n1
  · refine Gl.pre (S' := s₁.setTop (mkF m 31 #[.val (.long c1), .second, .val (.long n1), .second, .val (.long (c1 * (1000000000 : Int64))), .second, .val (.long ((c1 * (1000000000 : Int64)) / n1)), .second, .val (.long ((c1 * (1000000000 : Int64)) % n1)), .second] [(.int (lcmpW ((c1 * (1000000000 : Int64)) % n1) (0 : Int64)))])) (fun t kt => ?_) ?_
    · show Steps p.tables e below (s₁.setTop (mkF m 3 #[.val (.long c1), .second, .val (.long n1), .second, .unset, .unset, .unset, .unset, .unset, .unset] [(.int (lcmpW n1 (0 : Int64)))])) _
      refine XS.ifYes X0.here hx rfl (pc0 := 3) (pc' := 8) rfl (hb hby d3_3) rfl (own_t (l0_gt _ _) hc3) (by decide) (by decide) ?_
      show Steps p.tables e below (s₁.setTop (mkF m 8 #[.val (.long c1), .second, .val (.long n1), .second, .unset, .unset, .unset, .unset, .unset, .unset] [])) _
      refine XS.lloadN X0.here hx rfl (hb hby d3_8) rfl ?_
      show Steps p.tables e below (s₁.setTop (mkF m 9 #[.val (.long c1), .second, .val (.long n1), .second, .unset, .unset, .unset, .unset, .unset, .unset] [(.long c1)])) _
      refine X0.ldc2Long hx hown (mvT hZ (hw _ (List.mem_of_getElem? (i := 22) rfl))) (g := (mkF m 9 #[.val (.long c1), .second, .val (.long n1), .second, .unset, .unset, .unset, .unset, .unset, .unset] [(.long c1)])) rfl (hb hby d3_9) _ ?_
      show Steps p.tables e below (s₁.setTop (mkF m 12 #[.val (.long c1), .second, .val (.long n1), .second, .unset, .unset, .unset, .unset, .unset, .unset] [(.long (1000000000 : Int64)), (.long c1)])) _
      refine XS.lmul X0.here hx rfl (hb hby d3_12) rfl ?_
      show Steps p.tables e below (s₁.setTop (mkF m 13 #[.val (.long c1), .second, .val (.long n1), .second, .unset, .unset, .unset, .unset, .unset, .unset] [(.long (c1 * (1000000000 : Int64)))])) _
      refine XS.lstore X0.here hx rfl (hb hby d3_13) rfl (l' := #[.val (.long c1), .second, .val (.long n1), .second, .val (.long (c1 * (1000000000 : Int64))), .second, .unset, .unset, .unset, .unset]) rfl ?_
      show Steps p.tables e below (s₁.setTop (mkF m 15 #[.val (.long c1), .second, .val (.long n1), .second, .val (.long (c1 * (1000000000 : Int64))), .second, .unset, .unset, .unset, .unset] [])) _
      refine XS.lload X0.here hx rfl (hb hby d3_15) rfl ?_
      show Steps p.tables e below (s₁.setTop (mkF m 17 #[.val (.long c1), .second, .val (.long n1), .second, .val (.long (c1 * (1000000000 : Int64))), .second, .unset, .unset, .unset, .unset] [(.long (c1 * (1000000000 : Int64)))])) _
      refine XS.lloadN X0.here hx rfl (hb hby d3_17) rfl ?_
      show Steps p.tables e below (s₁.setTop (mkF m 18 #[.val (.long c1), .second, .val (.long n1), .second, .val (.long (c1 * (1000000000 : Int64))), .second, .unset, .unset, .unset, .unset] [(.long n1), (.long (c1 * (1000000000 : Int64)))])) _
      refine XS.ldiv X0.here hx rfl (hb hby d3_18) rfl (fun q => by rw [q] at hc3; exact absurd hc3 (by decide)) ?_
      show Steps p.tables e below (s₁.setTop (mkF m 19 #[.val (.long c1), .second, .val (.long n1), .second, .val (.long (c1 * (1000000000 : Int64))), .second, .unset, .unset, .unset, .unset] [(.long ((c1 * (1000000000 : Int64)) / n1))])) _
      refine XS.lstore X0.here hx rfl (hb hby d3_19) rfl (l' := #[.val (.long c1), .second, .val (.long n1), .second, .val (.long (c1 * (1000000000 : Int64))), .second, .val (.long ((c1 * (1000000000 : Int64)) / n1)), .second, .unset, .unset]) rfl ?_
      show Steps p.tables e below (s₁.setTop (mkF m 21 #[.val (.long c1), .second, .val (.long n1), .second, .val (.long (c1 * (1000000000 : Int64))), .second, .val (.long ((c1 * (1000000000 : Int64)) / n1)), .second, .unset, .unset] [])) _
      refine XS.lload X0.here hx rfl (hb hby d3_21) rfl ?_
      show Steps p.tables e below (s₁.setTop (mkF m 23 #[.val (.long c1), .second, .val (.long n1), .second, .val (.long (c1 * (1000000000 : Int64))), .second, .val (.long ((c1 * (1000000000 : Int64)) / n1)), .second, .unset, .unset] [(.long (c1 * (1000000000 : Int64)))])) _
      refine XS.lloadN X0.here hx rfl (hb hby d3_23) rfl ?_
      show Steps p.tables e below (s₁.setTop (mkF m 24 #[.val (.long c1), .second, .val (.long n1), .second, .val (.long (c1 * (1000000000 : Int64))), .second, .val (.long ((c1 * (1000000000 : Int64)) / n1)), .second, .unset, .unset] [(.long n1), (.long (c1 * (1000000000 : Int64)))])) _
      refine XS.lrem X0.here hx rfl (hb hby d3_24) rfl (fun q => by rw [q] at hc3; exact absurd hc3 (by decide)) ?_
      rw [own_lrem]
      show Steps p.tables e below (s₁.setTop (mkF m 25 #[.val (.long c1), .second, .val (.long n1), .second, .val (.long (c1 * (1000000000 : Int64))), .second, .val (.long ((c1 * (1000000000 : Int64)) / n1)), .second, .unset, .unset] [(.long ((c1 * (1000000000 : Int64)) % n1))])) _
      refine XS.lstore X0.here hx rfl (hb hby d3_25) rfl (l' := #[.val (.long c1), .second, .val (.long n1), .second, .val (.long (c1 * (1000000000 : Int64))), .second, .val (.long ((c1 * (1000000000 : Int64)) / n1)), .second, .val (.long ((c1 * (1000000000 : Int64)) % n1)), .second]) rfl ?_
      show Steps p.tables e below (s₁.setTop (mkF m 27 #[.val (.long c1), .second, .val (.long n1), .second, .val (.long (c1 * (1000000000 : Int64))), .second, .val (.long ((c1 * (1000000000 : Int64)) / n1)), .second, .val (.long ((c1 * (1000000000 : Int64)) % n1)), .second] [])) _
      refine XS.lload X0.here hx rfl (hb hby d3_27) rfl ?_
      show Steps p.tables e below (s₁.setTop (mkF m 29 #[.val (.long c1), .second, .val (.long n1), .second, .val (.long (c1 * (1000000000 : Int64))), .second, .val (.long ((c1 * (1000000000 : Int64)) / n1)), .second, .val (.long ((c1 * (1000000000 : Int64)) % n1)), .second] [(.long ((c1 * (1000000000 : Int64)) % n1))])) _
      refine XS.lconst X0.here hx rfl (hb hby d3_29) ?_
      show Steps p.tables e below (s₁.setTop (mkF m 30 #[.val (.long c1), .second, .val (.long n1), .second, .val (.long (c1 * (1000000000 : Int64))), .second, .val (.long ((c1 * (1000000000 : Int64)) / n1)), .second, .val (.long ((c1 * (1000000000 : Int64)) % n1)), .second] [(.long (0 : Int64)), (.long ((c1 * (1000000000 : Int64)) % n1))])) _
      refine XS.lcmp X0.here hx rfl (hb hby d3_30) rfl ?_
      exact kt
    by_cases hc31 : ((c1 * (1000000000 : Int64)) % n1) < (0 : Int64)
    · refine Gl.pre (S' := s₁.setTop (mkF m 53 #[.val (.long c1), .second, .val (.long n1), .second, .val (.long (c1 * (1000000000 : Int64))), .second, .val (.long (((c1 * (1000000000 : Int64)) / n1) - (1 : Int64))), .second, .val (.long (((c1 * (1000000000 : Int64)) % n1) + n1)), .second] [(.int (lcmpW (((c1 * (1000000000 : Int64)) % n1) + n1) (n1 - (((c1 * (1000000000 : Int64)) % n1) + n1))))])) (fun t kt => ?_) ?_
      · show Steps p.tables e below (s₁.setTop (mkF m 31 #[.val (.long c1), .second, .val (.long n1), .second, .val (.long (c1 * (1000000000 : Int64))), .second, .val (.long ((c1 * (1000000000 : Int64)) / n1)), .second, .val (.long ((c1 * (1000000000 : Int64)) % n1)), .second] [(.int (lcmpW ((c1 * (1000000000 : Int64)) % n1) (0 : Int64)))])) _
        refine XS.ifNo X0.here hx rfl (hb hby d3_31) rfl (own_nf (l0_ge _ _) hc31) ?_
        show Steps p.tables e below (s₁.setTop (mkF m 34 #[.val (.long c1), .second, .val (.long n1), .second, .val (.long (c1 * (1000000000 : Int64))), .second, .val (.long ((c1 * (1000000000 : Int64)) / n1)), .second, .val (.long ((c1 * (1000000000 : Int64)) % n1)), .second] [])) _
        refine XS.lload X0.here hx rfl (hb hby d3_34) rfl ?_
        show Steps p.tables e below (s₁.setTop (mkF m 36 #[.val (.long c1), .second, .val (.long n1), .second, .val (.long (c1 * (1000000000 : Int64))), .second, .val (.long ((c1 * (1000000000 : Int64)) / n1)), .second, .val (.long ((c1 * (1000000000 : Int64)) % n1)), .second] [(.long ((c1 * (1000000000 : Int64)) / n1))])) _
        refine XS.lconst X0.here hx rfl (hb hby d3_36) ?_
        show Steps p.tables e below (s₁.setTop (mkF m 37 #[.val (.long c1), .second, .val (.long n1), .second, .val (.long (c1 * (1000000000 : Int64))), .second, .val (.long ((c1 * (1000000000 : Int64)) / n1)), .second, .val (.long ((c1 * (1000000000 : Int64)) % n1)), .second] [(.long (1 : Int64)), (.long ((c1 * (1000000000 : Int64)) / n1))])) _
        refine XS.lsub X0.here hx rfl (hb hby d3_37) rfl ?_
        show Steps p.tables e below (s₁.setTop (mkF m 38 #[.val (.long c1), .second, .val (.long n1), .second, .val (.long (c1 * (1000000000 : Int64))), .second, .val (.long ((c1 * (1000000000 : Int64)) / n1)), .second, .val (.long ((c1 * (1000000000 : Int64)) % n1)), .second] [(.long (((c1 * (1000000000 : Int64)) / n1) - (1 : Int64)))])) _
        refine XS.lstore X0.here hx rfl (hb hby d3_38) rfl (l' := #[.val (.long c1), .second, .val (.long n1), .second, .val (.long (c1 * (1000000000 : Int64))), .second, .val (.long (((c1 * (1000000000 : Int64)) / n1) - (1 : Int64))), .second, .val (.long ((c1 * (1000000000 : Int64)) % n1)), .second]) rfl ?_
        show Steps p.tables e below (s₁.setTop (mkF m 40 #[.val (.long c1), .second, .val (.long n1), .second, .val (.long (c1 * (1000000000 : Int64))), .second, .val (.long (((c1 * (1000000000 : Int64)) / n1) - (1 : Int64))), .second, .val (.long ((c1 * (1000000000 : Int64)) % n1)), .second] [])) _
        refine XS.lload X0.here hx rfl (hb hby d3_40) rfl ?_
        show Steps p.tables e below (s₁.setTop (mkF m 42 #[.val (.long c1), .second, .val (.long n1), .second, .val (.long (c1 * (1000000000 : Int64))), .second, .val (.long (((c1 * (1000000000 : Int64)) / n1) - (1 : Int64))), .second, .val (.long ((c1 * (1000000000 : Int64)) % n1)), .second] [(.long ((c1 * (1000000000 : Int64)) % n1))])) _
        refine XS.lloadN X0.here hx rfl (hb hby d3_42) rfl ?_
        show Steps p.tables e below (s₁.setTop (mkF m 43 #[.val (.long c1), .second, .val (.long n1), .second, .val (.long (c1 * (1000000000 : Int64))), .second, .val (.long (((c1 * (1000000000 : Int64)) / n1) - (1 : Int64))), .second, .val (.long ((c1 * (1000000000 : Int64)) % n1)), .second] [(.long n1), (.long ((c1 * (1000000000 : Int64)) % n1))])) _
        refine XS.ladd X0.here hx rfl (hb hby d3_43) rfl ?_
        show Steps p.tables e below (s₁.setTop (mkF m 44 #[.val (.long c1), .second, .val (.long n1), .second, .val (.long (c1 * (1000000000 : Int64))), .second, .val (.long (((c1 * (1000000000 : Int64)) / n1) - (1 : Int64))), .second, .val (.long ((c1 * (1000000000 : Int64)) % n1)), .second] [(.long (((c1 * (1000000000 : Int64)) % n1) + n1))])) _
        refine XS.lstore X0.here hx rfl (hb hby d3_44) rfl (l' := #[.val (.long c1), .second, .val (.long n1), .second, .val (.long (c1 * (1000000000 : Int64))), .second, .val (.long (((c1 * (1000000000 : Int64)) / n1) - (1 : Int64))), .second, .val (.long (((c1 * (1000000000 : Int64)) % n1) + n1)), .second]) rfl ?_
        show Steps p.tables e below (s₁.setTop (mkF m 46 #[.val (.long c1), .second, .val (.long n1), .second, .val (.long (c1 * (1000000000 : Int64))), .second, .val (.long (((c1 * (1000000000 : Int64)) / n1) - (1 : Int64))), .second, .val (.long (((c1 * (1000000000 : Int64)) % n1) + n1)), .second] [])) _
        refine XS.lload X0.here hx rfl (hb hby d3_46) rfl ?_
        show Steps p.tables e below (s₁.setTop (mkF m 48 #[.val (.long c1), .second, .val (.long n1), .second, .val (.long (c1 * (1000000000 : Int64))), .second, .val (.long (((c1 * (1000000000 : Int64)) / n1) - (1 : Int64))), .second, .val (.long (((c1 * (1000000000 : Int64)) % n1) + n1)), .second] [(.long (((c1 * (1000000000 : Int64)) % n1) + n1))])) _
        refine XS.lloadN X0.here hx rfl (hb hby d3_48) rfl ?_
        show Steps p.tables e below (s₁.setTop (mkF m 49 #[.val (.long c1), .second, .val (.long n1), .second, .val (.long (c1 * (1000000000 : Int64))), .second, .val (.long (((c1 * (1000000000 : Int64)) / n1) - (1 : Int64))), .second, .val (.long (((c1 * (1000000000 : Int64)) % n1) + n1)), .second] [(.long n1), (.long (((c1 * (1000000000 : Int64)) % n1) + n1))])) _
        refine XS.lload X0.here hx rfl (hb hby d3_49) rfl ?_
        show Steps p.tables e below (s₁.setTop (mkF m 51 #[.val (.long c1), .second, .val (.long n1), .second, .val (.long (c1 * (1000000000 : Int64))), .second, .val (.long (((c1 * (1000000000 : Int64)) / n1) - (1 : Int64))), .second, .val (.long (((c1 * (1000000000 : Int64)) % n1) + n1)), .second] [(.long (((c1 * (1000000000 : Int64)) % n1) + n1)), (.long n1), (.long (((c1 * (1000000000 : Int64)) % n1) + n1))])) _
        refine XS.lsub X0.here hx rfl (hb hby d3_51) rfl ?_
        show Steps p.tables e below (s₁.setTop (mkF m 52 #[.val (.long c1), .second, .val (.long n1), .second, .val (.long (c1 * (1000000000 : Int64))), .second, .val (.long (((c1 * (1000000000 : Int64)) / n1) - (1 : Int64))), .second, .val (.long (((c1 * (1000000000 : Int64)) % n1) + n1)), .second] [(.long (n1 - (((c1 * (1000000000 : Int64)) % n1) + n1))), (.long (((c1 * (1000000000 : Int64)) % n1) + n1))])) _
        refine XS.lcmp X0.here hx rfl (hb hby d3_52) rfl ?_
        exact kt
      by_cases hc53 : (((c1 * (1000000000 : Int64)) % n1) + n1) < (n1 - (((c1 * (1000000000 : Int64)) % n1) + n1))
      · refine Gl.fin X0 (v := some (.long (((c1 * (1000000000 : Int64)) / n1) - (1 : Int64)))) (fun h => by rw [Bd.returns] at h; cases h) Bd.notSynchronized ?_ e0 (by decide) (by decide) (fun fs hr => ?_)
        · exact ⟨congrArg (fun z => some (Value.long z)) (by unfold own_rr; rw [if_pos hc3, if_pos hc31, if_pos hc53]), N0, rfl⟩
        · show Steps p.tables e below (s₁.setTop (mkF m 53 #[.val (.long c1), .second, .val (.long n1), .second, .val (.long (c1 * (1000000000 : Int64))), .second, .val (.long (((c1 * (1000000000 : Int64)) / n1) - (1 : Int64))), .second, .val (.long (((c1 * (1000000000 : Int64)) % n1) + n1)), .second] [(.int (lcmpW (((c1 * (1000000000 : Int64)) % n1) + n1) (n1 - (((c1 * (1000000000 : Int64)) % n1) + n1))))])) _
          refine XS.ifYes X0.here hx rfl (pc0 := 53) (pc' := 63) rfl (hb hby d3_53) rfl (own_t (l0_lt _ _) hc53) (by decide) (by decide) ?_
          show Steps p.tables e below (s₁.setTop (mkF m 63 #[.val (.long c1), .second, .val (.long n1), .second, .val (.long (c1 * (1000000000 : Int64))), .second, .val (.long (((c1 * (1000000000 : Int64)) / n1) - (1 : Int64))), .second, .val (.long (((c1 * (1000000000 : Int64)) % n1) + n1)), .second] [])) _
          refine XS.lload X0.here hx rfl (hb hby d3_63) rfl ?_
          show Steps p.tables e below (s₁.setTop (mkF m 65 #[.val (.long c1), .second, .val (.long n1), .second, .val (.long (c1 * (1000000000 : Int64))), .second, .val (.long (((c1 * (1000000000 : Int64)) / n1) - (1 : Int64))), .second, .val (.long (((c1 * (1000000000 : Int64)) % n1) + n1)), .second] [(.long (((c1 * (1000000000 : Int64)) / n1) - (1 : Int64)))])) _
          exact own_retJ X0 hx Bd.returns (hb hby d3_65) hr
      · refine Gl.fin X0 (v := some (.long ((((c1 * (1000000000 : Int64)) / n1) - (1 : Int64)) + (1 : Int64)))) (fun h => by rw [Bd.returns] at h; cases h) Bd.notSynchronized ?_ e0 (by decide) (by decide) (fun fs hr => ?_)
        · exact ⟨congrArg (fun z => some (Value.long z)) (by unfold own_rr; rw [if_pos hc3, if_pos hc31, if_neg hc53]), N0, rfl⟩
        · show Steps p.tables e below (s₁.setTop (mkF m 53 #[.val (.long c1), .second, .val (.long n1), .second, .val (.long (c1 * (1000000000 : Int64))), .second, .val (.long (((c1 * (1000000000 : Int64)) / n1) - (1 : Int64))), .second, .val (.long (((c1 * (1000000000 : Int64)) % n1) + n1)), .second] [(.int (lcmpW (((c1 * (1000000000 : Int64)) % n1) + n1) (n1 - (((c1 * (1000000000 : Int64)) % n1) + n1))))])) _
          refine XS.ifNo X0.here hx rfl (hb hby d3_53) rfl (own_f (l0_lt _ _) hc53) ?_
          show Steps p.tables e below (s₁.setTop (mkF m 56 #[.val (.long c1), .second, .val (.long n1), .second, .val (.long (c1 * (1000000000 : Int64))), .second, .val (.long (((c1 * (1000000000 : Int64)) / n1) - (1 : Int64))), .second, .val (.long (((c1 * (1000000000 : Int64)) % n1) + n1)), .second] [])) _
          refine XS.lload X0.here hx rfl (hb hby d3_56) rfl ?_
          show Steps p.tables e below (s₁.setTop (mkF m 58 #[.val (.long c1), .second, .val (.long n1), .second, .val (.long (c1 * (1000000000 : Int64))), .second, .val (.long (((c1 * (1000000000 : Int64)) / n1) - (1 : Int64))), .second, .val (.long (((c1 * (1000000000 : Int64)) % n1) + n1)), .second] [(.long (((c1 * (1000000000 : Int64)) / n1) - (1 : Int64)))])) _
          refine XS.lconst X0.here hx rfl (hb hby d3_58) ?_
          show Steps p.tables e below (s₁.setTop (mkF m 59 #[.val (.long c1), .second, .val (.long n1), .second, .val (.long (c1 * (1000000000 : Int64))), .second, .val (.long (((c1 * (1000000000 : Int64)) / n1) - (1 : Int64))), .second, .val (.long (((c1 * (1000000000 : Int64)) % n1) + n1)), .second] [(.long (1 : Int64)), (.long (((c1 * (1000000000 : Int64)) / n1) - (1 : Int64)))])) _
          refine XS.ladd X0.here hx rfl (hb hby d3_59) rfl ?_
          show Steps p.tables e below (s₁.setTop (mkF m 60 #[.val (.long c1), .second, .val (.long n1), .second, .val (.long (c1 * (1000000000 : Int64))), .second, .val (.long (((c1 * (1000000000 : Int64)) / n1) - (1 : Int64))), .second, .val (.long (((c1 * (1000000000 : Int64)) % n1) + n1)), .second] [(.long ((((c1 * (1000000000 : Int64)) / n1) - (1 : Int64)) + (1 : Int64)))])) _
          refine XS.goto X0.here hx rfl (pc0 := 60) (pc' := 65) rfl (hb hby d3_60) (by decide) (by decide) ?_
          show Steps p.tables e below (s₁.setTop (mkF m 65 #[.val (.long c1), .second, .val (.long n1), .second, .val (.long (c1 * (1000000000 : Int64))), .second, .val (.long (((c1 * (1000000000 : Int64)) / n1) - (1 : Int64))), .second, .val (.long (((c1 * (1000000000 : Int64)) % n1) + n1)), .second] [(.long ((((c1 * (1000000000 : Int64)) / n1) - (1 : Int64)) + (1 : Int64)))])) _
          exact own_retJ X0 hx Bd.returns (hb hby d3_65) hr
    · refine Gl.pre (S' := s₁.setTop (mkF m 53 #[.val (.long c1), .second, .val (.long n1), .second, .val (.long (c1 * (1000000000 : Int64))), .second, .val (.long ((c1 * (1000000000 : Int64)) / n1)), .second, .val (.long ((c1 * (1000000000 : Int64)) % n1)), .second] [(.int (lcmpW ((c1 * (1000000000 : Int64)) % n1) (n1 - ((c1 * (1000000000 : Int64)) % n1))))])) (fun t kt => ?_) ?_
      · show Steps p.tables e below (s₁.setTop (mkF m 31 #[.val (.long c1), .second, .val (.long n1), .second, .val (.long (c1 * (1000000000 : Int64))), .second, .val (.long ((c1 * (1000000000 : Int64)) / n1)), .second, .val (.long ((c1 * (1000000000 : Int64)) % n1)), .second] [(.int (lcmpW ((c1 * (1000000000 : Int64)) % n1) (0 : Int64)))])) _
        refine XS.ifYes X0.here hx rfl (pc0 := 31) (pc' := 46) rfl (hb hby d3_31) rfl (own_nt (l0_ge _ _) hc31) (by decide) (by decide) ?_
        show Steps p.tables e below (s₁.setTop (mkF m 46 #[.val (.long c1), .second, .val (.long n1), .second, .val (.long (c1 * (1000000000 : Int64))), .second, .val (.long ((c1 * (1000000000 : Int64)) / n1)), .second, .val (.long ((c1 * (1000000000 : Int64)) % n1)), .second] [])) _
        refine XS.lload X0.here hx rfl (hb hby d3_46) rfl ?_
        show Steps p.tables e below (s₁.setTop (mkF m 48 #[.val (.long c1), .second, .val (.long n1), .second, .val (.long (c1 * (1000000000 : Int64))), .second, .val (.long ((c1 * (1000000000 : Int64)) / n1)), .second, .val (.long ((c1 * (1000000000 : Int64)) % n1)), .second] [(.long ((c1 * (1000000000 : Int64)) % n1))])) _
        refine XS.lloadN X0.here hx rfl (hb hby d3_48) rfl ?_
        show Steps p.tables e below (s₁.setTop (mkF m 49 #[.val (.long c1), .second, .val (.long n1), .second, .val (.long (c1 * (1000000000 : Int64))), .second, .val (.long ((c1 * (1000000000 : Int64)) / n1)), .second, .val (.long ((c1 * (1000000000 : Int64)) % n1)), .second] [(.long n1), (.long ((c1 * (1000000000 : Int64)) % n1))])) _
        refine XS.lload X0.here hx rfl (hb hby d3_49) rfl ?_
        show Steps p.tables e below (s₁.setTop (mkF m 51 #[.val (.long c1), .second, .val (.long n1), .second, .val (.long (c1 * (1000000000 : Int64))), .second, .val (.long ((c1 * (1000000000 : Int64)) / n1)), .second, .val (.long ((c1 * (1000000000 : Int64)) % n1)), .second] [(.long ((c1 * (1000000000 : Int64)) % n1)), (.long n1), (.long ((c1 * (1000000000 : Int64)) % n1))])) _
        refine XS.lsub X0.here hx rfl (hb hby d3_51) rfl ?_
        show Steps p.tables e below (s₁.setTop (mkF m 52 #[.val (.long c1), .second, .val (.long n1), .second, .val (.long (c1 * (1000000000 : Int64))), .second, .val (.long ((c1 * (1000000000 : Int64)) / n1)), .second, .val (.long ((c1 * (1000000000 : Int64)) % n1)), .second] [(.long (n1 - ((c1 * (1000000000 : Int64)) % n1))), (.long ((c1 * (1000000000 : Int64)) % n1))])) _
        refine XS.lcmp X0.here hx rfl (hb hby d3_52) rfl ?_
        exact kt
      by_cases hc53 : ((c1 * (1000000000 : Int64)) % n1) < (n1 - ((c1 * (1000000000 : Int64)) % n1))
      · refine Gl.fin X0 (v := some (.long ((c1 * (1000000000 : Int64)) / n1))) (fun h => by rw [Bd.returns] at h; cases h) Bd.notSynchronized ?_ e0 (by decide) (by decide) (fun fs hr => ?_)
        · exact ⟨congrArg (fun z => some (Value.long z)) (by unfold own_rr; rw [if_pos hc3, if_neg hc31, if_pos hc53]), N0, rfl⟩
        · show Steps p.tables e below (s₁.setTop (mkF m 53 #[.val (.long c1), .second, .val (.long n1), .second, .val (.long (c1 * (1000000000 : Int64))), .second, .val (.long ((c1 * (1000000000 : Int64)) / n1)), .second, .val (.long ((c1 * (1000000000 : Int64)) % n1)), .second] [(.int (lcmpW ((c1 * (1000000000 : Int64)) % n1) (n1 - ((c1 * (1000000000 : Int64)) % n1))))])) _
          refine XS.ifYes X0.here hx rfl (pc0 := 53) (pc' := 63) rfl (hb hby d3_53) rfl (own_t (l0_lt _ _) hc53) (by decide) (by decide) ?_
          show Steps p.tables e below (s₁.setTop (mkF m 63 #[.val (.long c1), .second, .val (.long n1), .second, .val (.long (c1 * (1000000000 : Int64))), .second, .val (.long ((c1 * (1000000000 : Int64)) / n1)), .second, .val (.long ((c1 * (1000000000 : Int64)) % n1)), .second] [])) _
          refine XS.lload X0.here hx rfl (hb hby d3_63) rfl ?_
          show Steps p.tables e below (s₁.setTop (mkF m 65 #[.val (.long c1), .second, .val (.long n1), .second, .val (.long (c1 * (1000000000 : Int64))), .second, .val (.long ((c1 * (1000000000 : Int64)) / n1)), .second, .val (.long ((c1 * (1000000000 : Int64)) % n1)), .second] [(.long ((c1 * (1000000000 : Int64)) / n1))])) _
          exact own_retJ X0 hx Bd.returns (hb hby d3_65) hr
      · refine Gl.fin X0 (v := some (.long (((c1 * (1000000000 : Int64)) / n1) + (1 : Int64)))) (fun h => by rw [Bd.returns] at h; cases h) Bd.notSynchronized ?_ e0 (by decide) (by decide) (fun fs hr => ?_)
        · exact ⟨congrArg (fun z => some (Value.long z)) (by unfold own_rr; rw [if_pos hc3, if_neg hc31, if_neg hc53]), N0, rfl⟩
        · show Steps p.tables e below (s₁.setTop (mkF m 53 #[.val (.long c1), .second, .val (.long n1), .second, .val (.long (c1 * (1000000000 : Int64))), .second, .val (.long ((c1 * (1000000000 : Int64)) / n1)), .second, .val (.long ((c1 * (1000000000 : Int64)) % n1)), .second] [(.int (lcmpW ((c1 * (1000000000 : Int64)) % n1) (n1 - ((c1 * (1000000000 : Int64)) % n1))))])) _
          refine XS.ifNo X0.here hx rfl (hb hby d3_53) rfl (own_f (l0_lt _ _) hc53) ?_
          show Steps p.tables e below (s₁.setTop (mkF m 56 #[.val (.long c1), .second, .val (.long n1), .second, .val (.long (c1 * (1000000000 : Int64))), .second, .val (.long ((c1 * (1000000000 : Int64)) / n1)), .second, .val (.long ((c1 * (1000000000 : Int64)) % n1)), .second] [])) _
          refine XS.lload X0.here hx rfl (hb hby d3_56) rfl ?_
          show Steps p.tables e below (s₁.setTop (mkF m 58 #[.val (.long c1), .second, .val (.long n1), .second, .val (.long (c1 * (1000000000 : Int64))), .second, .val (.long ((c1 * (1000000000 : Int64)) / n1)), .second, .val (.long ((c1 * (1000000000 : Int64)) % n1)), .second] [(.long ((c1 * (1000000000 : Int64)) / n1))])) _
          refine XS.lconst X0.here hx rfl (hb hby d3_58) ?_
          show Steps p.tables e below (s₁.setTop (mkF m 59 #[.val (.long c1), .second, .val (.long n1), .second, .val (.long (c1 * (1000000000 : Int64))), .second, .val (.long ((c1 * (1000000000 : Int64)) / n1)), .second, .val (.long ((c1 * (1000000000 : Int64)) % n1)), .second] [(.long (1 : Int64)), (.long ((c1 * (1000000000 : Int64)) / n1))])) _
          refine XS.ladd X0.here hx rfl (hb hby d3_59) rfl ?_
          show Steps p.tables e below (s₁.setTop (mkF m 60 #[.val (.long c1), .second, .val (.long n1), .second, .val (.long (c1 * (1000000000 : Int64))), .second, .val (.long ((c1 * (1000000000 : Int64)) / n1)), .second, .val (.long ((c1 * (1000000000 : Int64)) % n1)), .second] [(.long (((c1 * (1000000000 : Int64)) / n1) + (1 : Int64)))])) _
          refine XS.goto X0.here hx rfl (pc0 := 60) (pc' := 65) rfl (hb hby d3_60) (by decide) (by decide) ?_
          show Steps p.tables e below (s₁.setTop (mkF m 65 #[.val (.long c1), .second, .val (.long n1), .second, .val (.long (c1 * (1000000000 : Int64))), .second, .val (.long ((c1 * (1000000000 : Int64)) / n1)), .second, .val (.long ((c1 * (1000000000 : Int64)) % n1)), .second] [(.long (((c1 * (1000000000 : Int64)) / n1) + (1 : Int64)))])) _
          exact own_retJ X0 hx Bd.returns (hb hby d3_65) hr
  · refine Gl.fin X0 (v := some (.long (0 : Int64))) (fun h => by rw [Bd.returns] at h; cases h) Bd.notSynchronized ?_ e0 (by decide) (by decide) (fun fs hr => ?_)
    · exact ⟨congrArg (fun z => some (Value.long z)) (by unfold own_rr; rw [if_neg hc3]), N0, rfl⟩
    · show Steps p.tables e below (s₁.setTop (mkF m 3 #[.val (.long c1), .second, .val (.long n1), .second, .unset, .unset, .unset, .unset, .unset, .unset] [(.int (lcmpW n1 (0 : Int64)))])) _
      refine XS.ifNo X0.here hx rfl (hb hby d3_3) rfl (own_f (l0_gt _ _) hc3) ?_
      show Steps p.tables e below (s₁.setTop (mkF m 6 #[.val (.long c1), .second, .val (.long n1), .second, .unset, .unset, .unset, .unset, .unset, .unset] [])) _
      refine XS.lconst X0.here hx rfl (hb hby d3_6) ?_
      show Steps p.tables e below (s₁.setTop (mkF m 7 #[.val (.long c1), .second, .val (.long n1), .second, .unset, .unset, .unset, .unset, .unset, .unset] [(.long (0 : Int64))])) _
      exact own_retJ X0 hx Bd.returns (hb hby d3_7) hr
theorem ef_rm0 (m : MethodId) (x0 : Int64) (x1 : Int64) (x2 : Int32) : entryFrame m #[(.long x0), (.long x1), (.int x2)] maxLocals = mkF m 0 #[.val (.long x0), .second, .val (.long x1), .second, .val (.int x2), .unset, .unset, .unset, .unset, .unset, .unset, .unset, .unset, .unset] [] := by first | (simp [entryFrame, mkF, argsToLocals, Value.category, maxLocals]; done) | rfl
theorem pd__JJ_J : parseMethodDescriptor "(JJ)J" = some ⟨[.long, .long], some .long⟩ := by decide +kernel
def Q0 (Z : State) (p0 : Int64) (p1 : Int64) (p2 : Int32) (h0 : Heap) (n0 : Nat) (v : Option Value) (h : Heap) (L : List Loc) : Prop := v = some (.int 1) ∧ Fr n0 L
set_option maxRecDepth 65536 in
set_option maxHeartbeats 40000000 in
theorem rm0 (l : Launch) (Z : State) (a0 : Array Value) (hw : ∀ d ∈ tables_1, d.before a0 Z = true) (ws : List Jvm.Cond) (p0 : Int64) (p1 : Int64) (p2 : Int32) (h0 : Heap) (n0 : Nat) (Z0 : n0 ≤ h0.size) :
    OMet l Z x code maxLocals ret ws room_1 #[(.long p0), (.long p1), (.int p2)] h0 (Q0 Z p0 p1 p2 h0 n0) := by
  refine own_body (plainFor_of_name pn_com_example_porthcurno_porthcurno_tools_FiguresPerSecondPinLaw) ?_
  intro p e s m below meth c s₁ Bd hml0 hZ e0
  have hx := Bd.exec
  have hby := Bd.bytes
  have hml : c.maxLocals = 14 := hml0
  have hown : s.vm.findClass "com/example/porthcurno/porthcurno/tools/FiguresPerSecondPinLaw" = some m.cls := findClass_of_methodNamed Bd.named
  have hnm := (name_of_methodNamed Bd.named Bd.method).1
  have X0 : Stand p l e room_1 s m #[(.long p0), (.long p1), (.int p2)] below meth c s₁ [] 0 0 := Stand.of_body Bd
  have N0 := Fr.nil n0
  have K0 : Keep h0 h0 [] := Keep.refl _ _
  rw [ef_rm0]
  obtain ⟨v101, T101, L101, X101, q101, st101⟩ := own_callS X0 hx hZ (y := (⟨"com/example/porthcurno/porthcurno/tools/Figures", "perSecond", "(JJ)J"⟩ : MethodName)) hown (hw _ (List.mem_of_getElem? (i := 0) rfl)) (hw _ (List.mem_of_getElem? (i := 1) rfl)) (hw _ (List.mem_of_getElem? (i := 2) rfl)) (hw _ (List.mem_of_getElem? (i := 3) rfl)) (by decide) (hM := (rm1 l Z a0 hw [] p0 p1 h0 n0 Z0)) (by decide) (by decide) (by decide) (by decide) e0 (argsL := [(.long p0), (.long p1)]) (rest := []) (Ls := #[.val (.long p0), .second, .val (.long p1), .second, .val (.int p2), .unset, .unset, .unset, .unset, .unset, .unset, .unset, .unset, .unset]) (by rw [hml]; rfl) (lenOf pd__JJ_J rfl) (W := 0) (Nat.le_of_eq rfl) (hb hby at_2)
  obtain ⟨rfl, N101q, e101⟩ := q101
  have N101 := Fr.app N0 N101q
  refine Gl.pre (S' := T101.setTop (mkF m 10 #[.val (.long p0), .second, .val (.long p1), .second, .val (.int p2), .val (.long (own_ps p0 p1)), .second, .unset, .unset, .unset, .unset, .unset, .unset, .unset] [(.int (lcmpW p1 (0 : Int64)))])) (fun t kt => ?_) ?_
  · show Steps p.tables e below (s₁.setTop (mkF m 0 #[.val (.long p0), .second, .val (.long p1), .second, .val (.int p2), .unset, .unset, .unset, .unset, .unset, .unset, .unset, .unset, .unset] [])) _
    refine XS.lloadN X0.here hx rfl (hb hby at_0) rfl ?_
    show Steps p.tables e below (s₁.setTop (mkF m 1 #[.val (.long p0), .second, .val (.long p1), .second, .val (.int p2), .unset, .unset, .unset, .unset, .unset, .unset, .unset, .unset, .unset] [(.long p0)])) _
    refine XS.lloadN X0.here hx rfl (hb hby at_1) rfl ?_
    show Steps p.tables e below (s₁.setTop (mkF m 2 #[.val (.long p0), .second, .val (.long p1), .second, .val (.int p2), .unset, .unset, .unset, .unset, .unset, .unset, .unset, .unset, .unset] [(.long p1), (.long p0)])) _
    refine st101 _ ?_
    show Steps p.tables e below (T101.setTop (mkF m 5 #[.val (.long p0), .second, .val (.long p1), .second, .val (.int p2), .unset, .unset, .unset, .unset, .unset, .unset, .unset, .unset, .unset] [(.long (own_ps p0 p1))])) _
    refine XS.lstore X101.here hx rfl (hb hby at_5) rfl (l' := #[.val (.long p0), .second, .val (.long p1), .second, .val (.int p2), .val (.long (own_ps p0 p1)), .second, .unset, .unset, .unset, .unset, .unset, .unset, .unset]) rfl ?_
    show Steps p.tables e below (T101.setTop (mkF m 7 #[.val (.long p0), .second, .val (.long p1), .second, .val (.int p2), .val (.long (own_ps p0 p1)), .second, .unset, .unset, .unset, .unset, .unset, .unset, .unset] [])) _
    refine XS.lloadN X101.here hx rfl (hb hby at_7) rfl ?_
    show Steps p.tables e below (T101.setTop (mkF m 8 #[.val (.long p0), .second, .val (.long p1), .second, .val (.int p2), .val (.long (own_ps p0 p1)), .second, .unset, .unset, .unset, .unset, .unset, .unset, .unset] [(.long p1)])) _
    refine XS.lconst X101.here hx rfl (hb hby at_8) ?_
    show Steps p.tables e below (T101.setTop (mkF m 9 #[.val (.long p0), .second, .val (.long p1), .second, .val (.int p2), .val (.long (own_ps p0 p1)), .second, .unset, .unset, .unset, .unset, .unset, .unset, .unset] [(.long (0 : Int64)), (.long p1)])) _
    refine XS.lcmp X101.here hx rfl (hb hby at_9) rfl ?_
    exact kt
  by_cases hc10 : (0 : Int64) < p1
  · refine Gl.pre (S' := T101.setTop (mkF m 33 #[.val (.long p0), .second, .val (.long p1), .second, .val (.int p2), .val (.long (own_ps p0 p1)), .second, .unset, .unset, .unset, .unset, .unset, .unset, .unset] [(.int (lcmpW p0 (0 : Int64)))])) (fun t kt => ?_) ?_
    · show Steps p.tables e below (T101.setTop (mkF m 10 #[.val (.long p0), .second, .val (.long p1), .second, .val (.int p2), .val (.long (own_ps p0 p1)), .second, .unset, .unset, .unset, .unset, .unset, .unset, .unset] [(.int (lcmpW p1 (0 : Int64)))])) _
      refine XS.ifYes X101.here hx rfl (pc0 := 10) (pc' := 30) rfl (hb hby at_10) rfl (own_t (l0_gt _ _) hc10) (by decide) (by decide) ?_
      show Steps p.tables e below (T101.setTop (mkF m 30 #[.val (.long p0), .second, .val (.long p1), .second, .val (.int p2), .val (.long (own_ps p0 p1)), .second, .unset, .unset, .unset, .unset, .unset, .unset, .unset] [])) _
      refine XS.lloadN X101.here hx rfl (hb hby at_30) rfl ?_
      show Steps p.tables e below (T101.setTop (mkF m 31 #[.val (.long p0), .second, .val (.long p1), .second, .val (.int p2), .val (.long (own_ps p0 p1)), .second, .unset, .unset, .unset, .unset, .unset, .unset, .unset] [(.long p0)])) _
      refine XS.lconst X101.here hx rfl (hb hby at_31) ?_
      show Steps p.tables e below (T101.setTop (mkF m 32 #[.val (.long p0), .second, .val (.long p1), .second, .val (.int p2), .val (.long (own_ps p0 p1)), .second, .unset, .unset, .unset, .unset, .unset, .unset, .unset] [(.long (0 : Int64)), (.long p0)])) _
      refine XS.lcmp X101.here hx rfl (hb hby at_32) rfl ?_
      exact kt
    by_cases hc33 : (0 : Int64) < p0
    · refine Gl.pre (S' := T101.setTop (mkF m 108 #[.val (.long p0), .second, .val (.long p1), .second, .val (.int p2), .val (.long (own_ps p0 p1)), .second, .val (.int (1 : Int32)), .val (.long (((p0 <<< ((41 : Int32) &&& 0x3f).toInt64) >>> ((41 : Int32) &&& 0x3f).toInt64) >>> ((((p2.toUInt32 >>> ((6 : Int32) &&& 31).toUInt32).toInt32) &&& (31 : Int32)) &&& 0x3f).toInt64)), .second, .unset, .unset, .unset, .unset] [])) (fun t kt => ?_) ?_
      · show Steps p.tables e below (T101.setTop (mkF m 33 #[.val (.long p0), .second, .val (.long p1), .second, .val (.int p2), .val (.long (own_ps p0 p1)), .second, .unset, .unset, .unset, .unset, .unset, .unset, .unset] [(.int (lcmpW p0 (0 : Int64)))])) _
        refine XS.ifNo X101.here hx rfl (hb hby at_33) rfl (own_nf (l0_le _ _) hc33) ?_
        show Steps p.tables e below (T101.setTop (mkF m 36 #[.val (.long p0), .second, .val (.long p1), .second, .val (.int p2), .val (.long (own_ps p0 p1)), .second, .unset, .unset, .unset, .unset, .unset, .unset, .unset] [])) _
        refine XS.lload X101.here hx rfl (hb hby at_36) rfl ?_
        show Steps p.tables e below (T101.setTop (mkF m 38 #[.val (.long p0), .second, .val (.long p1), .second, .val (.int p2), .val (.long (own_ps p0 p1)), .second, .unset, .unset, .unset, .unset, .unset, .unset, .unset] [(.long (own_ps p0 p1))])) _
        refine XS.lconst X101.here hx rfl (hb hby at_38) ?_
        show Steps p.tables e below (T101.setTop (mkF m 39 #[.val (.long p0), .second, .val (.long p1), .second, .val (.int p2), .val (.long (own_ps p0 p1)), .second, .unset, .unset, .unset, .unset, .unset, .unset, .unset] [(.long (0 : Int64)), (.long (own_ps p0 p1))])) _
        refine XS.lcmp X101.here hx rfl (hb hby at_39) rfl ?_
        show Steps p.tables e below (T101.setTop (mkF m 40 #[.val (.long p0), .second, .val (.long p1), .second, .val (.int p2), .val (.long (own_ps p0 p1)), .second, .unset, .unset, .unset, .unset, .unset, .unset, .unset] [(.int (lcmpW (own_ps p0 p1) (0 : Int64)))])) _
        refine XS.ifNo X101.here hx rfl (hb hby at_40) rfl (own_f (l0_lt _ _) (own_ps_pos hc33)) ?_
        show Steps p.tables e below (T101.setTop (mkF m 43 #[.val (.long p0), .second, .val (.long p1), .second, .val (.int p2), .val (.long (own_ps p0 p1)), .second, .unset, .unset, .unset, .unset, .unset, .unset, .unset] [])) _
        refine XS.iconst X101.here hx rfl (hb hby at_43) ?_
        show Steps p.tables e below (T101.setTop (mkF m 44 #[.val (.long p0), .second, .val (.long p1), .second, .val (.int p2), .val (.long (own_ps p0 p1)), .second, .unset, .unset, .unset, .unset, .unset, .unset, .unset] [(.int (1 : Int32))])) _
        refine XS.goto X101.here hx rfl (pc0 := 44) (pc' := 48) rfl (hb hby at_44) (by decide) (by decide) ?_
        show Steps p.tables e below (T101.setTop (mkF m 48 #[.val (.long p0), .second, .val (.long p1), .second, .val (.int p2), .val (.long (own_ps p0 p1)), .second, .unset, .unset, .unset, .unset, .unset, .unset, .unset] [(.int (1 : Int32))])) _
        refine XS.istore X101.here hx rfl (hb hby at_48) rfl (l' := #[.val (.long p0), .second, .val (.long p1), .second, .val (.int p2), .val (.long (own_ps p0 p1)), .second, .val (.int (1 : Int32)), .unset, .unset, .unset, .unset, .unset, .unset]) rfl ?_
        show Steps p.tables e below (T101.setTop (mkF m 50 #[.val (.long p0), .second, .val (.long p1), .second, .val (.int p2), .val (.long (own_ps p0 p1)), .second, .val (.int (1 : Int32)), .unset, .unset, .unset, .unset, .unset, .unset] [])) _
        refine XS.goto X101.here hx rfl (pc0 := 50) (pc' := 90) rfl (hb hby at_50) (by decide) (by decide) ?_
        show Steps p.tables e below (T101.setTop (mkF m 90 #[.val (.long p0), .second, .val (.long p1), .second, .val (.int p2), .val (.long (own_ps p0 p1)), .second, .val (.int (1 : Int32)), .unset, .unset, .unset, .unset, .unset, .unset] [])) _
        refine XS.lloadN X101.here hx rfl (hb hby at_90) rfl ?_
        show Steps p.tables e below (T101.setTop (mkF m 91 #[.val (.long p0), .second, .val (.long p1), .second, .val (.int p2), .val (.long (own_ps p0 p1)), .second, .val (.int (1 : Int32)), .unset, .unset, .unset, .unset, .unset, .unset] [(.long p0)])) _
        refine XS.bipush X101.here hx rfl (hb hby at_91) ?_
        show Steps p.tables e below (T101.setTop (mkF m 93 #[.val (.long p0), .second, .val (.long p1), .second, .val (.int p2), .val (.long (own_ps p0 p1)), .second, .val (.int (1 : Int32)), .unset, .unset, .unset, .unset, .unset, .unset] [(.int (41 : Int32)), (.long p0)])) _
        refine XS.lshl X101.here hx rfl (hb hby at_93) rfl ?_
        show Steps p.tables e below (T101.setTop (mkF m 94 #[.val (.long p0), .second, .val (.long p1), .second, .val (.int p2), .val (.long (own_ps p0 p1)), .second, .val (.int (1 : Int32)), .unset, .unset, .unset, .unset, .unset, .unset] [(.long (p0 <<< ((41 : Int32) &&& 0x3f).toInt64))])) _
        refine XS.bipush X101.here hx rfl (hb hby at_94) ?_
        show Steps p.tables e below (T101.setTop (mkF m 96 #[.val (.long p0), .second, .val (.long p1), .second, .val (.int p2), .val (.long (own_ps p0 p1)), .second, .val (.int (1 : Int32)), .unset, .unset, .unset, .unset, .unset, .unset] [(.int (41 : Int32)), (.long (p0 <<< ((41 : Int32) &&& 0x3f).toInt64))])) _
        refine XS.lshr X101.here hx rfl (hb hby at_96) rfl ?_
        show Steps p.tables e below (T101.setTop (mkF m 97 #[.val (.long p0), .second, .val (.long p1), .second, .val (.int p2), .val (.long (own_ps p0 p1)), .second, .val (.int (1 : Int32)), .unset, .unset, .unset, .unset, .unset, .unset] [(.long ((p0 <<< ((41 : Int32) &&& 0x3f).toInt64) >>> ((41 : Int32) &&& 0x3f).toInt64))])) _
        refine XS.iload X101.here hx rfl (hb hby at_97) rfl ?_
        show Steps p.tables e below (T101.setTop (mkF m 99 #[.val (.long p0), .second, .val (.long p1), .second, .val (.int p2), .val (.long (own_ps p0 p1)), .second, .val (.int (1 : Int32)), .unset, .unset, .unset, .unset, .unset, .unset] [(.int p2), (.long ((p0 <<< ((41 : Int32) &&& 0x3f).toInt64) >>> ((41 : Int32) &&& 0x3f).toInt64))])) _
        refine XS.bipush X101.here hx rfl (hb hby at_99) ?_
        show Steps p.tables e below (T101.setTop (mkF m 101 #[.val (.long p0), .second, .val (.long p1), .second, .val (.int p2), .val (.long (own_ps p0 p1)), .second, .val (.int (1 : Int32)), .unset, .unset, .unset, .unset, .unset, .unset] [(.int (6 : Int32)), (.int p2), (.long ((p0 <<< ((41 : Int32) &&& 0x3f).toInt64) >>> ((41 : Int32) &&& 0x3f).toInt64))])) _
        refine XS.iushr X101.here hx rfl (hb hby at_101) rfl ?_
        show Steps p.tables e below (T101.setTop (mkF m 102 #[.val (.long p0), .second, .val (.long p1), .second, .val (.int p2), .val (.long (own_ps p0 p1)), .second, .val (.int (1 : Int32)), .unset, .unset, .unset, .unset, .unset, .unset] [(.int ((p2.toUInt32 >>> ((6 : Int32) &&& 31).toUInt32).toInt32)), (.long ((p0 <<< ((41 : Int32) &&& 0x3f).toInt64) >>> ((41 : Int32) &&& 0x3f).toInt64))])) _
        refine XS.bipush X101.here hx rfl (hb hby at_102) ?_
        show Steps p.tables e below (T101.setTop (mkF m 104 #[.val (.long p0), .second, .val (.long p1), .second, .val (.int p2), .val (.long (own_ps p0 p1)), .second, .val (.int (1 : Int32)), .unset, .unset, .unset, .unset, .unset, .unset] [(.int (31 : Int32)), (.int ((p2.toUInt32 >>> ((6 : Int32) &&& 31).toUInt32).toInt32)), (.long ((p0 <<< ((41 : Int32) &&& 0x3f).toInt64) >>> ((41 : Int32) &&& 0x3f).toInt64))])) _
        refine XS.iand X101.here hx rfl (hb hby at_104) rfl ?_
        show Steps p.tables e below (T101.setTop (mkF m 105 #[.val (.long p0), .second, .val (.long p1), .second, .val (.int p2), .val (.long (own_ps p0 p1)), .second, .val (.int (1 : Int32)), .unset, .unset, .unset, .unset, .unset, .unset] [(.int (((p2.toUInt32 >>> ((6 : Int32) &&& 31).toUInt32).toInt32) &&& (31 : Int32))), (.long ((p0 <<< ((41 : Int32) &&& 0x3f).toInt64) >>> ((41 : Int32) &&& 0x3f).toInt64))])) _
        refine XS.lshr X101.here hx rfl (hb hby at_105) rfl ?_
        show Steps p.tables e below (T101.setTop (mkF m 106 #[.val (.long p0), .second, .val (.long p1), .second, .val (.int p2), .val (.long (own_ps p0 p1)), .second, .val (.int (1 : Int32)), .unset, .unset, .unset, .unset, .unset, .unset] [(.long (((p0 <<< ((41 : Int32) &&& 0x3f).toInt64) >>> ((41 : Int32) &&& 0x3f).toInt64) >>> ((((p2.toUInt32 >>> ((6 : Int32) &&& 31).toUInt32).toInt32) &&& (31 : Int32)) &&& 0x3f).toInt64))])) _
        refine XS.lstore X101.here hx rfl (hb hby at_106) rfl (l' := #[.val (.long p0), .second, .val (.long p1), .second, .val (.int p2), .val (.long (own_ps p0 p1)), .second, .val (.int (1 : Int32)), .val (.long (((p0 <<< ((41 : Int32) &&& 0x3f).toInt64) >>> ((41 : Int32) &&& 0x3f).toInt64) >>> ((((p2.toUInt32 >>> ((6 : Int32) &&& 31).toUInt32).toInt32) &&& (31 : Int32)) &&& 0x3f).toInt64)), .second, .unset, .unset, .unset, .unset]) rfl ?_
        exact kt
      obtain ⟨cc, h_cc⟩ : ∃ z : Int64, z = (((p0 <<< ((41 : Int32) &&& 0x3f).toInt64) >>> ((41 : Int32) &&& 0x3f).toInt64) >>> ((((p2.toUInt32 >>> ((6 : Int32) &&& 31).toUInt32).toInt32) &&& (31 : Int32)) &&& 0x3f).toInt64) := ⟨_, rfl⟩
      rw [← h_cc]
      refine Gl.pre (S' := T101.setTop (mkF m 117 #[.val (.long p0), .second, .val (.long p1), .second, .val (.int p2), .val (.long (own_ps p0 p1)), .second, .val (.int (1 : Int32)), .val (.long cc), .second, .val (.long (p1 >>> ((p2 &&& (63 : Int32)) &&& 0x3f).toInt64)), .second, .unset, .unset] [])) (fun t kt => ?_) ?_
      · show Steps p.tables e below (T101.setTop (mkF m 108 #[.val (.long p0), .second, .val (.long p1), .second, .val (.int p2), .val (.long (own_ps p0 p1)), .second, .val (.int (1 : Int32)), .val (.long cc), .second, .unset, .unset, .unset, .unset] [])) _
        refine XS.lloadN X101.here hx rfl (hb hby at_108) rfl ?_
        show Steps p.tables e below (T101.setTop (mkF m 109 #[.val (.long p0), .second, .val (.long p1), .second, .val (.int p2), .val (.long (own_ps p0 p1)), .second, .val (.int (1 : Int32)), .val (.long cc), .second, .unset, .unset, .unset, .unset] [(.long p1)])) _
        refine XS.iload X101.here hx rfl (hb hby at_109) rfl ?_
        show Steps p.tables e below (T101.setTop (mkF m 111 #[.val (.long p0), .second, .val (.long p1), .second, .val (.int p2), .val (.long (own_ps p0 p1)), .second, .val (.int (1 : Int32)), .val (.long cc), .second, .unset, .unset, .unset, .unset] [(.int p2), (.long p1)])) _
        refine XS.bipush X101.here hx rfl (hb hby at_111) ?_
        show Steps p.tables e below (T101.setTop (mkF m 113 #[.val (.long p0), .second, .val (.long p1), .second, .val (.int p2), .val (.long (own_ps p0 p1)), .second, .val (.int (1 : Int32)), .val (.long cc), .second, .unset, .unset, .unset, .unset] [(.int (63 : Int32)), (.int p2), (.long p1)])) _
        refine XS.iand X101.here hx rfl (hb hby at_113) rfl ?_
        show Steps p.tables e below (T101.setTop (mkF m 114 #[.val (.long p0), .second, .val (.long p1), .second, .val (.int p2), .val (.long (own_ps p0 p1)), .second, .val (.int (1 : Int32)), .val (.long cc), .second, .unset, .unset, .unset, .unset] [(.int (p2 &&& (63 : Int32))), (.long p1)])) _
        refine XS.lshr X101.here hx rfl (hb hby at_114) rfl ?_
        show Steps p.tables e below (T101.setTop (mkF m 115 #[.val (.long p0), .second, .val (.long p1), .second, .val (.int p2), .val (.long (own_ps p0 p1)), .second, .val (.int (1 : Int32)), .val (.long cc), .second, .unset, .unset, .unset, .unset] [(.long (p1 >>> ((p2 &&& (63 : Int32)) &&& 0x3f).toInt64))])) _
        refine XS.lstore X101.here hx rfl (hb hby at_115) rfl (l' := #[.val (.long p0), .second, .val (.long p1), .second, .val (.int p2), .val (.long (own_ps p0 p1)), .second, .val (.int (1 : Int32)), .val (.long cc), .second, .val (.long (p1 >>> ((p2 &&& (63 : Int32)) &&& 0x3f).toInt64)), .second, .unset, .unset]) rfl ?_
        exact kt
      obtain ⟨nn, h_nn⟩ : ∃ z : Int64, z = (p1 >>> ((p2 &&& (63 : Int32)) &&& 0x3f).toInt64) := ⟨_, rfl⟩
      rw [← h_nn]
      obtain ⟨v102, T102, L102, X102, q102, st102⟩ := own_callS X101 hx hZ (y := (⟨"com/example/porthcurno/porthcurno/tools/Figures", "perSecond", "(JJ)J"⟩ : MethodName)) hown (hw _ (List.mem_of_getElem? (i := 0) rfl)) (hw _ (List.mem_of_getElem? (i := 1) rfl)) (hw _ (List.mem_of_getElem? (i := 2) rfl)) (hw _ (List.mem_of_getElem? (i := 3) rfl)) (by decide) (hM := (rm1 l Z a0 hw [] cc nn h0 n0 Z0)) (by decide) (by decide) (by decide) (by decide) e101 (argsL := [(.long cc), (.long nn)]) (rest := []) (Ls := #[.val (.long p0), .second, .val (.long p1), .second, .val (.int p2), .val (.long (own_ps p0 p1)), .second, .val (.int (1 : Int32)), .val (.long cc), .second, .val (.long nn), .second, .unset, .unset]) (by rw [hml]; rfl) (lenOf pd__JJ_J rfl) (W := 0) (Nat.le_of_eq rfl) (hb hby at_121)
      obtain ⟨rfl, N102q, e102⟩ := q102
      have N102 := Fr.app N101 N102q
      obtain ⟨v103, T103, L103, X103, q103, st103⟩ := own_callS X102 hx hZ (y := (⟨"com/example/porthcurno/porthcurno/tools/FiguresPerSecondPinLaw", "roundedRate", "(JJ)J"⟩ : MethodName)) hown (hw _ (List.mem_of_getElem? (i := 18) rfl)) (hw _ (List.mem_of_getElem? (i := 19) rfl)) (hw _ (List.mem_of_getElem? (i := 20) rfl)) (hw _ (List.mem_of_getElem? (i := 21) rfl)) (by decide) (hM := (rm3 l Z a0 hw [] cc nn h0 n0 Z0)) (by decide) (by decide) (by decide) (by decide) e102 (argsL := [(.long cc), (.long nn)]) (rest := [(.long (own_ps cc nn))]) (Ls := #[.val (.long p0), .second, .val (.long p1), .second, .val (.int p2), .val (.long (own_ps p0 p1)), .second, .val (.int (1 : Int32)), .val (.long cc), .second, .val (.long nn), .second, .val (.long (own_ps cc nn)), .second]) (by rw [hml]; rfl) (lenOf pd__JJ_J rfl) (W := 2) (Nat.le_of_eq rfl) (hb hby at_137)
      obtain ⟨rfl, N103q, e103⟩ := q103
      have N103 := Fr.app N102 N103q
      refine Gl.fin X103 (v := some (.int (1 : Int32))) (fun h => by rw [Bd.returns] at h; cases h) Bd.notSynchronized ?_ e103 (by decide) (by decide) (fun fs hr => ?_)
      · exact ⟨rfl, N103⟩
      · show Steps p.tables e below (T101.setTop (mkF m 117 #[.val (.long p0), .second, .val (.long p1), .second, .val (.int p2), .val (.long (own_ps p0 p1)), .second, .val (.int (1 : Int32)), .val (.long cc), .second, .val (.long nn), .second, .unset, .unset] [])) _
        refine XS.lload X101.here hx rfl (hb hby at_117) rfl ?_
        show Steps p.tables e below (T101.setTop (mkF m 119 #[.val (.long p0), .second, .val (.long p1), .second, .val (.int p2), .val (.long (own_ps p0 p1)), .second, .val (.int (1 : Int32)), .val (.long cc), .second, .val (.long nn), .second, .unset, .unset] [(.long cc)])) _
        refine XS.lload X101.here hx rfl (hb hby at_119) rfl ?_
        show Steps p.tables e below (T101.setTop (mkF m 121 #[.val (.long p0), .second, .val (.long p1), .second, .val (.int p2), .val (.long (own_ps p0 p1)), .second, .val (.int (1 : Int32)), .val (.long cc), .second, .val (.long nn), .second, .unset, .unset] [(.long nn), (.long cc)])) _
        refine st102 _ ?_
        show Steps p.tables e below (T102.setTop (mkF m 124 #[.val (.long p0), .second, .val (.long p1), .second, .val (.int p2), .val (.long (own_ps p0 p1)), .second, .val (.int (1 : Int32)), .val (.long cc), .second, .val (.long nn), .second, .unset, .unset] [(.long (own_ps cc nn))])) _
        refine XS.lstore X102.here hx rfl (hb hby at_124) rfl (l' := #[.val (.long p0), .second, .val (.long p1), .second, .val (.int p2), .val (.long (own_ps p0 p1)), .second, .val (.int (1 : Int32)), .val (.long cc), .second, .val (.long nn), .second, .val (.long (own_ps cc nn)), .second]) rfl ?_
        show Steps p.tables e below (T102.setTop (mkF m 126 #[.val (.long p0), .second, .val (.long p1), .second, .val (.int p2), .val (.long (own_ps p0 p1)), .second, .val (.int (1 : Int32)), .val (.long cc), .second, .val (.long nn), .second, .val (.long (own_ps cc nn)), .second] [])) _
        refine XS.iload X102.here hx rfl (hb hby at_126) rfl ?_
        show Steps p.tables e below (T102.setTop (mkF m 128 #[.val (.long p0), .second, .val (.long p1), .second, .val (.int p2), .val (.long (own_ps p0 p1)), .second, .val (.int (1 : Int32)), .val (.long cc), .second, .val (.long nn), .second, .val (.long (own_ps cc nn)), .second] [(.int (1 : Int32))])) _
        refine XS.ifNo X102.here hx rfl (hb hby at_128) rfl (own_f (i0_eq _) (by decide)) ?_
        show Steps p.tables e below (T102.setTop (mkF m 131 #[.val (.long p0), .second, .val (.long p1), .second, .val (.int p2), .val (.long (own_ps p0 p1)), .second, .val (.int (1 : Int32)), .val (.long cc), .second, .val (.long nn), .second, .val (.long (own_ps cc nn)), .second] [])) _
        refine XS.lload X102.here hx rfl (hb hby at_131) rfl ?_
        show Steps p.tables e below (T102.setTop (mkF m 133 #[.val (.long p0), .second, .val (.long p1), .second, .val (.int p2), .val (.long (own_ps p0 p1)), .second, .val (.int (1 : Int32)), .val (.long cc), .second, .val (.long nn), .second, .val (.long (own_ps cc nn)), .second] [(.long (own_ps cc nn))])) _
        refine XS.lload X102.here hx rfl (hb hby at_133) rfl ?_
        show Steps p.tables e below (T102.setTop (mkF m 135 #[.val (.long p0), .second, .val (.long p1), .second, .val (.int p2), .val (.long (own_ps p0 p1)), .second, .val (.int (1 : Int32)), .val (.long cc), .second, .val (.long nn), .second, .val (.long (own_ps cc nn)), .second] [(.long cc), (.long (own_ps cc nn))])) _
        refine XS.lload X102.here hx rfl (hb hby at_135) rfl ?_
        show Steps p.tables e below (T102.setTop (mkF m 137 #[.val (.long p0), .second, .val (.long p1), .second, .val (.int p2), .val (.long (own_ps p0 p1)), .second, .val (.int (1 : Int32)), .val (.long cc), .second, .val (.long nn), .second, .val (.long (own_ps cc nn)), .second] [(.long nn), (.long cc), (.long (own_ps cc nn))])) _
        refine st103 _ ?_
        show Steps p.tables e below (T103.setTop (mkF m 140 #[.val (.long p0), .second, .val (.long p1), .second, .val (.int p2), .val (.long (own_ps p0 p1)), .second, .val (.int (1 : Int32)), .val (.long cc), .second, .val (.long nn), .second, .val (.long (own_ps cc nn)), .second] [(.long (own_rr cc nn)), (.long (own_ps cc nn))])) _
        refine XS.lcmp X103.here hx rfl (hb hby at_140) rfl ?_
        show Steps p.tables e below (T103.setTop (mkF m 141 #[.val (.long p0), .second, .val (.long p1), .second, .val (.int p2), .val (.long (own_ps p0 p1)), .second, .val (.int (1 : Int32)), .val (.long cc), .second, .val (.long nn), .second, .val (.long (own_ps cc nn)), .second] [(.int (lcmpW (own_ps cc nn) (own_rr cc nn)))])) _
        refine XS.ifNo X103.here hx rfl (hb hby at_141) rfl (own_nf (l0_ne _ _) (own_rr_eq (by rw [h_cc]; exact (own_c23 _ _).1) (by rw [h_cc]; exact (own_c23 _ _).2))) ?_
        show Steps p.tables e below (T103.setTop (mkF m 144 #[.val (.long p0), .second, .val (.long p1), .second, .val (.int p2), .val (.long (own_ps p0 p1)), .second, .val (.int (1 : Int32)), .val (.long cc), .second, .val (.long nn), .second, .val (.long (own_ps cc nn)), .second] [])) _
        refine XS.iconst X103.here hx rfl (hb hby at_144) ?_
        show Steps p.tables e below (T103.setTop (mkF m 145 #[.val (.long p0), .second, .val (.long p1), .second, .val (.int p2), .val (.long (own_ps p0 p1)), .second, .val (.int (1 : Int32)), .val (.long cc), .second, .val (.long nn), .second, .val (.long (own_ps cc nn)), .second] [(.int (1 : Int32))])) _
        refine XS.goto X103.here hx rfl (pc0 := 145) (pc' := 149) rfl (hb hby at_145) (by decide) (by decide) ?_
        show Steps p.tables e below (T103.setTop (mkF m 149 #[.val (.long p0), .second, .val (.long p1), .second, .val (.int p2), .val (.long (own_ps p0 p1)), .second, .val (.int (1 : Int32)), .val (.long cc), .second, .val (.long nn), .second, .val (.long (own_ps cc nn)), .second] [(.int (1 : Int32))])) _
        exact retN X103 hx (t := .boolean) Bd.returns (by simp) (hb hby at_149) hr
    · refine Gl.pre (S' := T101.setTop (mkF m 56 #[.val (.long p0), .second, .val (.long p1), .second, .val (.int p2), .val (.long (own_ps p0 p1)), .second, .unset, .unset, .unset, .unset, .unset, .unset, .unset] [(.int (lcmpW p0 (0 : Int64)))])) (fun t kt => ?_) ?_
      · show Steps p.tables e below (T101.setTop (mkF m 33 #[.val (.long p0), .second, .val (.long p1), .second, .val (.int p2), .val (.long (own_ps p0 p1)), .second, .unset, .unset, .unset, .unset, .unset, .unset, .unset] [(.int (lcmpW p0 (0 : Int64)))])) _
        refine XS.ifYes X101.here hx rfl (pc0 := 33) (pc' := 53) rfl (hb hby at_33) rfl (own_nt (l0_le _ _) hc33) (by decide) (by decide) ?_
        show Steps p.tables e below (T101.setTop (mkF m 53 #[.val (.long p0), .second, .val (.long p1), .second, .val (.int p2), .val (.long (own_ps p0 p1)), .second, .unset, .unset, .unset, .unset, .unset, .unset, .unset] [])) _
        refine XS.lloadN X101.here hx rfl (hb hby at_53) rfl ?_
        show Steps p.tables e below (T101.setTop (mkF m 54 #[.val (.long p0), .second, .val (.long p1), .second, .val (.int p2), .val (.long (own_ps p0 p1)), .second, .unset, .unset, .unset, .unset, .unset, .unset, .unset] [(.long p0)])) _
        refine XS.lconst X101.here hx rfl (hb hby at_54) ?_
        show Steps p.tables e below (T101.setTop (mkF m 55 #[.val (.long p0), .second, .val (.long p1), .second, .val (.int p2), .val (.long (own_ps p0 p1)), .second, .unset, .unset, .unset, .unset, .unset, .unset, .unset] [(.long (0 : Int64)), (.long p0)])) _
        refine XS.lcmp X101.here hx rfl (hb hby at_55) rfl ?_
        exact kt
      by_cases hc56 : p0 < (0 : Int64)
      · refine Gl.pre (S' := T101.setTop (mkF m 108 #[.val (.long p0), .second, .val (.long p1), .second, .val (.int p2), .val (.long (own_ps p0 p1)), .second, .val (.int (1 : Int32)), .val (.long (((p0 <<< ((41 : Int32) &&& 0x3f).toInt64) >>> ((41 : Int32) &&& 0x3f).toInt64) >>> ((((p2.toUInt32 >>> ((6 : Int32) &&& 31).toUInt32).toInt32) &&& (31 : Int32)) &&& 0x3f).toInt64)), .second, .unset, .unset, .unset, .unset] [])) (fun t kt => ?_) ?_
        · show Steps p.tables e below (T101.setTop (mkF m 56 #[.val (.long p0), .second, .val (.long p1), .second, .val (.int p2), .val (.long (own_ps p0 p1)), .second, .unset, .unset, .unset, .unset, .unset, .unset, .unset] [(.int (lcmpW p0 (0 : Int64)))])) _
          refine XS.ifNo X101.here hx rfl (hb hby at_56) rfl (own_nf (l0_ge _ _) hc56) ?_
          show Steps p.tables e below (T101.setTop (mkF m 59 #[.val (.long p0), .second, .val (.long p1), .second, .val (.int p2), .val (.long (own_ps p0 p1)), .second, .unset, .unset, .unset, .unset, .unset, .unset, .unset] [])) _
          refine XS.lload X101.here hx rfl (hb hby at_59) rfl ?_
          show Steps p.tables e below (T101.setTop (mkF m 61 #[.val (.long p0), .second, .val (.long p1), .second, .val (.int p2), .val (.long (own_ps p0 p1)), .second, .unset, .unset, .unset, .unset, .unset, .unset, .unset] [(.long (own_ps p0 p1))])) _
          refine XS.lconst X101.here hx rfl (hb hby at_61) ?_
          show Steps p.tables e below (T101.setTop (mkF m 62 #[.val (.long p0), .second, .val (.long p1), .second, .val (.int p2), .val (.long (own_ps p0 p1)), .second, .unset, .unset, .unset, .unset, .unset, .unset, .unset] [(.long (0 : Int64)), (.long (own_ps p0 p1))])) _
          refine XS.lcmp X101.here hx rfl (hb hby at_62) rfl ?_
          show Steps p.tables e below (T101.setTop (mkF m 63 #[.val (.long p0), .second, .val (.long p1), .second, .val (.int p2), .val (.long (own_ps p0 p1)), .second, .unset, .unset, .unset, .unset, .unset, .unset, .unset] [(.int (lcmpW (own_ps p0 p1) (0 : Int64)))])) _
          refine XS.ifNo X101.here hx rfl (hb hby at_63) rfl (own_f (l0_gt _ _) (own_ps_neg hc56)) ?_
          show Steps p.tables e below (T101.setTop (mkF m 66 #[.val (.long p0), .second, .val (.long p1), .second, .val (.int p2), .val (.long (own_ps p0 p1)), .second, .unset, .unset, .unset, .unset, .unset, .unset, .unset] [])) _
          refine XS.iconst X101.here hx rfl (hb hby at_66) ?_
          show Steps p.tables e below (T101.setTop (mkF m 67 #[.val (.long p0), .second, .val (.long p1), .second, .val (.int p2), .val (.long (own_ps p0 p1)), .second, .unset, .unset, .unset, .unset, .unset, .unset, .unset] [(.int (1 : Int32))])) _
          refine XS.goto X101.here hx rfl (pc0 := 67) (pc' := 71) rfl (hb hby at_67) (by decide) (by decide) ?_
          show Steps p.tables e below (T101.setTop (mkF m 71 #[.val (.long p0), .second, .val (.long p1), .second, .val (.int p2), .val (.long (own_ps p0 p1)), .second, .unset, .unset, .unset, .unset, .unset, .unset, .unset] [(.int (1 : Int32))])) _
          refine XS.istore X101.here hx rfl (hb hby at_71) rfl (l' := #[.val (.long p0), .second, .val (.long p1), .second, .val (.int p2), .val (.long (own_ps p0 p1)), .second, .val (.int (1 : Int32)), .unset, .unset, .unset, .unset, .unset, .unset]) rfl ?_
          show Steps p.tables e below (T101.setTop (mkF m 73 #[.val (.long p0), .second, .val (.long p1), .second, .val (.int p2), .val (.long (own_ps p0 p1)), .second, .val (.int (1 : Int32)), .unset, .unset, .unset, .unset, .unset, .unset] [])) _
          refine XS.goto X101.here hx rfl (pc0 := 73) (pc' := 90) rfl (hb hby at_73) (by decide) (by decide) ?_
          show Steps p.tables e below (T101.setTop (mkF m 90 #[.val (.long p0), .second, .val (.long p1), .second, .val (.int p2), .val (.long (own_ps p0 p1)), .second, .val (.int (1 : Int32)), .unset, .unset, .unset, .unset, .unset, .unset] [])) _
          refine XS.lloadN X101.here hx rfl (hb hby at_90) rfl ?_
          show Steps p.tables e below (T101.setTop (mkF m 91 #[.val (.long p0), .second, .val (.long p1), .second, .val (.int p2), .val (.long (own_ps p0 p1)), .second, .val (.int (1 : Int32)), .unset, .unset, .unset, .unset, .unset, .unset] [(.long p0)])) _
          refine XS.bipush X101.here hx rfl (hb hby at_91) ?_
          show Steps p.tables e below (T101.setTop (mkF m 93 #[.val (.long p0), .second, .val (.long p1), .second, .val (.int p2), .val (.long (own_ps p0 p1)), .second, .val (.int (1 : Int32)), .unset, .unset, .unset, .unset, .unset, .unset] [(.int (41 : Int32)), (.long p0)])) _
          refine XS.lshl X101.here hx rfl (hb hby at_93) rfl ?_
          show Steps p.tables e below (T101.setTop (mkF m 94 #[.val (.long p0), .second, .val (.long p1), .second, .val (.int p2), .val (.long (own_ps p0 p1)), .second, .val (.int (1 : Int32)), .unset, .unset, .unset, .unset, .unset, .unset] [(.long (p0 <<< ((41 : Int32) &&& 0x3f).toInt64))])) _
          refine XS.bipush X101.here hx rfl (hb hby at_94) ?_
          show Steps p.tables e below (T101.setTop (mkF m 96 #[.val (.long p0), .second, .val (.long p1), .second, .val (.int p2), .val (.long (own_ps p0 p1)), .second, .val (.int (1 : Int32)), .unset, .unset, .unset, .unset, .unset, .unset] [(.int (41 : Int32)), (.long (p0 <<< ((41 : Int32) &&& 0x3f).toInt64))])) _
          refine XS.lshr X101.here hx rfl (hb hby at_96) rfl ?_
          show Steps p.tables e below (T101.setTop (mkF m 97 #[.val (.long p0), .second, .val (.long p1), .second, .val (.int p2), .val (.long (own_ps p0 p1)), .second, .val (.int (1 : Int32)), .unset, .unset, .unset, .unset, .unset, .unset] [(.long ((p0 <<< ((41 : Int32) &&& 0x3f).toInt64) >>> ((41 : Int32) &&& 0x3f).toInt64))])) _
          refine XS.iload X101.here hx rfl (hb hby at_97) rfl ?_
          show Steps p.tables e below (T101.setTop (mkF m 99 #[.val (.long p0), .second, .val (.long p1), .second, .val (.int p2), .val (.long (own_ps p0 p1)), .second, .val (.int (1 : Int32)), .unset, .unset, .unset, .unset, .unset, .unset] [(.int p2), (.long ((p0 <<< ((41 : Int32) &&& 0x3f).toInt64) >>> ((41 : Int32) &&& 0x3f).toInt64))])) _
          refine XS.bipush X101.here hx rfl (hb hby at_99) ?_
          show Steps p.tables e below (T101.setTop (mkF m 101 #[.val (.long p0), .second, .val (.long p1), .second, .val (.int p2), .val (.long (own_ps p0 p1)), .second, .val (.int (1 : Int32)), .unset, .unset, .unset, .unset, .unset, .unset] [(.int (6 : Int32)), (.int p2), (.long ((p0 <<< ((41 : Int32) &&& 0x3f).toInt64) >>> ((41 : Int32) &&& 0x3f).toInt64))])) _
          refine XS.iushr X101.here hx rfl (hb hby at_101) rfl ?_
          show Steps p.tables e below (T101.setTop (mkF m 102 #[.val (.long p0), .second, .val (.long p1), .second, .val (.int p2), .val (.long (own_ps p0 p1)), .second, .val (.int (1 : Int32)), .unset, .unset, .unset, .unset, .unset, .unset] [(.int ((p2.toUInt32 >>> ((6 : Int32) &&& 31).toUInt32).toInt32)), (.long ((p0 <<< ((41 : Int32) &&& 0x3f).toInt64) >>> ((41 : Int32) &&& 0x3f).toInt64))])) _
          refine XS.bipush X101.here hx rfl (hb hby at_102) ?_
          show Steps p.tables e below (T101.setTop (mkF m 104 #[.val (.long p0), .second, .val (.long p1), .second, .val (.int p2), .val (.long (own_ps p0 p1)), .second, .val (.int (1 : Int32)), .unset, .unset, .unset, .unset, .unset, .unset] [(.int (31 : Int32)), (.int ((p2.toUInt32 >>> ((6 : Int32) &&& 31).toUInt32).toInt32)), (.long ((p0 <<< ((41 : Int32) &&& 0x3f).toInt64) >>> ((41 : Int32) &&& 0x3f).toInt64))])) _
          refine XS.iand X101.here hx rfl (hb hby at_104) rfl ?_
          show Steps p.tables e below (T101.setTop (mkF m 105 #[.val (.long p0), .second, .val (.long p1), .second, .val (.int p2), .val (.long (own_ps p0 p1)), .second, .val (.int (1 : Int32)), .unset, .unset, .unset, .unset, .unset, .unset] [(.int (((p2.toUInt32 >>> ((6 : Int32) &&& 31).toUInt32).toInt32) &&& (31 : Int32))), (.long ((p0 <<< ((41 : Int32) &&& 0x3f).toInt64) >>> ((41 : Int32) &&& 0x3f).toInt64))])) _
          refine XS.lshr X101.here hx rfl (hb hby at_105) rfl ?_
          show Steps p.tables e below (T101.setTop (mkF m 106 #[.val (.long p0), .second, .val (.long p1), .second, .val (.int p2), .val (.long (own_ps p0 p1)), .second, .val (.int (1 : Int32)), .unset, .unset, .unset, .unset, .unset, .unset] [(.long (((p0 <<< ((41 : Int32) &&& 0x3f).toInt64) >>> ((41 : Int32) &&& 0x3f).toInt64) >>> ((((p2.toUInt32 >>> ((6 : Int32) &&& 31).toUInt32).toInt32) &&& (31 : Int32)) &&& 0x3f).toInt64))])) _
          refine XS.lstore X101.here hx rfl (hb hby at_106) rfl (l' := #[.val (.long p0), .second, .val (.long p1), .second, .val (.int p2), .val (.long (own_ps p0 p1)), .second, .val (.int (1 : Int32)), .val (.long (((p0 <<< ((41 : Int32) &&& 0x3f).toInt64) >>> ((41 : Int32) &&& 0x3f).toInt64) >>> ((((p2.toUInt32 >>> ((6 : Int32) &&& 31).toUInt32).toInt32) &&& (31 : Int32)) &&& 0x3f).toInt64)), .second, .unset, .unset, .unset, .unset]) rfl ?_
          exact kt
        obtain ⟨cc, h_cc⟩ : ∃ z : Int64, z = (((p0 <<< ((41 : Int32) &&& 0x3f).toInt64) >>> ((41 : Int32) &&& 0x3f).toInt64) >>> ((((p2.toUInt32 >>> ((6 : Int32) &&& 31).toUInt32).toInt32) &&& (31 : Int32)) &&& 0x3f).toInt64) := ⟨_, rfl⟩
        rw [← h_cc]
        refine Gl.pre (S' := T101.setTop (mkF m 117 #[.val (.long p0), .second, .val (.long p1), .second, .val (.int p2), .val (.long (own_ps p0 p1)), .second, .val (.int (1 : Int32)), .val (.long cc), .second, .val (.long (p1 >>> ((p2 &&& (63 : Int32)) &&& 0x3f).toInt64)), .second, .unset, .unset] [])) (fun t kt => ?_) ?_
        · show Steps p.tables e below (T101.setTop (mkF m 108 #[.val (.long p0), .second, .val (.long p1), .second, .val (.int p2), .val (.long (own_ps p0 p1)), .second, .val (.int (1 : Int32)), .val (.long cc), .second, .unset, .unset, .unset, .unset] [])) _
          refine XS.lloadN X101.here hx rfl (hb hby at_108) rfl ?_
          show Steps p.tables e below (T101.setTop (mkF m 109 #[.val (.long p0), .second, .val (.long p1), .second, .val (.int p2), .val (.long (own_ps p0 p1)), .second, .val (.int (1 : Int32)), .val (.long cc), .second, .unset, .unset, .unset, .unset] [(.long p1)])) _
          refine XS.iload X101.here hx rfl (hb hby at_109) rfl ?_
          show Steps p.tables e below (T101.setTop (mkF m 111 #[.val (.long p0), .second, .val (.long p1), .second, .val (.int p2), .val (.long (own_ps p0 p1)), .second, .val (.int (1 : Int32)), .val (.long cc), .second, .unset, .unset, .unset, .unset] [(.int p2), (.long p1)])) _
          refine XS.bipush X101.here hx rfl (hb hby at_111) ?_
          show Steps p.tables e below (T101.setTop (mkF m 113 #[.val (.long p0), .second, .val (.long p1), .second, .val (.int p2), .val (.long (own_ps p0 p1)), .second, .val (.int (1 : Int32)), .val (.long cc), .second, .unset, .unset, .unset, .unset] [(.int (63 : Int32)), (.int p2), (.long p1)])) _
          refine XS.iand X101.here hx rfl (hb hby at_113) rfl ?_
          show Steps p.tables e below (T101.setTop (mkF m 114 #[.val (.long p0), .second, .val (.long p1), .second, .val (.int p2), .val (.long (own_ps p0 p1)), .second, .val (.int (1 : Int32)), .val (.long cc), .second, .unset, .unset, .unset, .unset] [(.int (p2 &&& (63 : Int32))), (.long p1)])) _
          refine XS.lshr X101.here hx rfl (hb hby at_114) rfl ?_
          show Steps p.tables e below (T101.setTop (mkF m 115 #[.val (.long p0), .second, .val (.long p1), .second, .val (.int p2), .val (.long (own_ps p0 p1)), .second, .val (.int (1 : Int32)), .val (.long cc), .second, .unset, .unset, .unset, .unset] [(.long (p1 >>> ((p2 &&& (63 : Int32)) &&& 0x3f).toInt64))])) _
          refine XS.lstore X101.here hx rfl (hb hby at_115) rfl (l' := #[.val (.long p0), .second, .val (.long p1), .second, .val (.int p2), .val (.long (own_ps p0 p1)), .second, .val (.int (1 : Int32)), .val (.long cc), .second, .val (.long (p1 >>> ((p2 &&& (63 : Int32)) &&& 0x3f).toInt64)), .second, .unset, .unset]) rfl ?_
          exact kt
        obtain ⟨nn, h_nn⟩ : ∃ z : Int64, z = (p1 >>> ((p2 &&& (63 : Int32)) &&& 0x3f).toInt64) := ⟨_, rfl⟩
        rw [← h_nn]
        obtain ⟨v104, T104, L104, X104, q104, st104⟩ := own_callS X101 hx hZ (y := (⟨"com/example/porthcurno/porthcurno/tools/Figures", "perSecond", "(JJ)J"⟩ : MethodName)) hown (hw _ (List.mem_of_getElem? (i := 0) rfl)) (hw _ (List.mem_of_getElem? (i := 1) rfl)) (hw _ (List.mem_of_getElem? (i := 2) rfl)) (hw _ (List.mem_of_getElem? (i := 3) rfl)) (by decide) (hM := (rm1 l Z a0 hw [] cc nn h0 n0 Z0)) (by decide) (by decide) (by decide) (by decide) e101 (argsL := [(.long cc), (.long nn)]) (rest := []) (Ls := #[.val (.long p0), .second, .val (.long p1), .second, .val (.int p2), .val (.long (own_ps p0 p1)), .second, .val (.int (1 : Int32)), .val (.long cc), .second, .val (.long nn), .second, .unset, .unset]) (by rw [hml]; rfl) (lenOf pd__JJ_J rfl) (W := 0) (Nat.le_of_eq rfl) (hb hby at_121)
        obtain ⟨rfl, N104q, e104⟩ := q104
        have N104 := Fr.app N101 N104q
        obtain ⟨v105, T105, L105, X105, q105, st105⟩ := own_callS X104 hx hZ (y := (⟨"com/example/porthcurno/porthcurno/tools/FiguresPerSecondPinLaw", "roundedRate", "(JJ)J"⟩ : MethodName)) hown (hw _ (List.mem_of_getElem? (i := 18) rfl)) (hw _ (List.mem_of_getElem? (i := 19) rfl)) (hw _ (List.mem_of_getElem? (i := 20) rfl)) (hw _ (List.mem_of_getElem? (i := 21) rfl)) (by decide) (hM := (rm3 l Z a0 hw [] cc nn h0 n0 Z0)) (by decide) (by decide) (by decide) (by decide) e104 (argsL := [(.long cc), (.long nn)]) (rest := [(.long (own_ps cc nn))]) (Ls := #[.val (.long p0), .second, .val (.long p1), .second, .val (.int p2), .val (.long (own_ps p0 p1)), .second, .val (.int (1 : Int32)), .val (.long cc), .second, .val (.long nn), .second, .val (.long (own_ps cc nn)), .second]) (by rw [hml]; rfl) (lenOf pd__JJ_J rfl) (W := 2) (Nat.le_of_eq rfl) (hb hby at_137)
        obtain ⟨rfl, N105q, e105⟩ := q105
        have N105 := Fr.app N104 N105q
        refine Gl.fin X105 (v := some (.int (1 : Int32))) (fun h => by rw [Bd.returns] at h; cases h) Bd.notSynchronized ?_ e105 (by decide) (by decide) (fun fs hr => ?_)
        · exact ⟨rfl, N105⟩
        · show Steps p.tables e below (T101.setTop (mkF m 117 #[.val (.long p0), .second, .val (.long p1), .second, .val (.int p2), .val (.long (own_ps p0 p1)), .second, .val (.int (1 : Int32)), .val (.long cc), .second, .val (.long nn), .second, .unset, .unset] [])) _
          refine XS.lload X101.here hx rfl (hb hby at_117) rfl ?_
          show Steps p.tables e below (T101.setTop (mkF m 119 #[.val (.long p0), .second, .val (.long p1), .second, .val (.int p2), .val (.long (own_ps p0 p1)), .second, .val (.int (1 : Int32)), .val (.long cc), .second, .val (.long nn), .second, .unset, .unset] [(.long cc)])) _
          refine XS.lload X101.here hx rfl (hb hby at_119) rfl ?_
          show Steps p.tables e below (T101.setTop (mkF m 121 #[.val (.long p0), .second, .val (.long p1), .second, .val (.int p2), .val (.long (own_ps p0 p1)), .second, .val (.int (1 : Int32)), .val (.long cc), .second, .val (.long nn), .second, .unset, .unset] [(.long nn), (.long cc)])) _
          refine st104 _ ?_
          show Steps p.tables e below (T104.setTop (mkF m 124 #[.val (.long p0), .second, .val (.long p1), .second, .val (.int p2), .val (.long (own_ps p0 p1)), .second, .val (.int (1 : Int32)), .val (.long cc), .second, .val (.long nn), .second, .unset, .unset] [(.long (own_ps cc nn))])) _
          refine XS.lstore X104.here hx rfl (hb hby at_124) rfl (l' := #[.val (.long p0), .second, .val (.long p1), .second, .val (.int p2), .val (.long (own_ps p0 p1)), .second, .val (.int (1 : Int32)), .val (.long cc), .second, .val (.long nn), .second, .val (.long (own_ps cc nn)), .second]) rfl ?_
          show Steps p.tables e below (T104.setTop (mkF m 126 #[.val (.long p0), .second, .val (.long p1), .second, .val (.int p2), .val (.long (own_ps p0 p1)), .second, .val (.int (1 : Int32)), .val (.long cc), .second, .val (.long nn), .second, .val (.long (own_ps cc nn)), .second] [])) _
          refine XS.iload X104.here hx rfl (hb hby at_126) rfl ?_
          show Steps p.tables e below (T104.setTop (mkF m 128 #[.val (.long p0), .second, .val (.long p1), .second, .val (.int p2), .val (.long (own_ps p0 p1)), .second, .val (.int (1 : Int32)), .val (.long cc), .second, .val (.long nn), .second, .val (.long (own_ps cc nn)), .second] [(.int (1 : Int32))])) _
          refine XS.ifNo X104.here hx rfl (hb hby at_128) rfl (own_f (i0_eq _) (by decide)) ?_
          show Steps p.tables e below (T104.setTop (mkF m 131 #[.val (.long p0), .second, .val (.long p1), .second, .val (.int p2), .val (.long (own_ps p0 p1)), .second, .val (.int (1 : Int32)), .val (.long cc), .second, .val (.long nn), .second, .val (.long (own_ps cc nn)), .second] [])) _
          refine XS.lload X104.here hx rfl (hb hby at_131) rfl ?_
          show Steps p.tables e below (T104.setTop (mkF m 133 #[.val (.long p0), .second, .val (.long p1), .second, .val (.int p2), .val (.long (own_ps p0 p1)), .second, .val (.int (1 : Int32)), .val (.long cc), .second, .val (.long nn), .second, .val (.long (own_ps cc nn)), .second] [(.long (own_ps cc nn))])) _
          refine XS.lload X104.here hx rfl (hb hby at_133) rfl ?_
          show Steps p.tables e below (T104.setTop (mkF m 135 #[.val (.long p0), .second, .val (.long p1), .second, .val (.int p2), .val (.long (own_ps p0 p1)), .second, .val (.int (1 : Int32)), .val (.long cc), .second, .val (.long nn), .second, .val (.long (own_ps cc nn)), .second] [(.long cc), (.long (own_ps cc nn))])) _
          refine XS.lload X104.here hx rfl (hb hby at_135) rfl ?_
          show Steps p.tables e below (T104.setTop (mkF m 137 #[.val (.long p0), .second, .val (.long p1), .second, .val (.int p2), .val (.long (own_ps p0 p1)), .second, .val (.int (1 : Int32)), .val (.long cc), .second, .val (.long nn), .second, .val (.long (own_ps cc nn)), .second] [(.long nn), (.long cc), (.long (own_ps cc nn))])) _
          refine st105 _ ?_
          show Steps p.tables e below (T105.setTop (mkF m 140 #[.val (.long p0), .second, .val (.long p1), .second, .val (.int p2), .val (.long (own_ps p0 p1)), .second, .val (.int (1 : Int32)), .val (.long cc), .second, .val (.long nn), .second, .val (.long (own_ps cc nn)), .second] [(.long (own_rr cc nn)), (.long (own_ps cc nn))])) _
          refine XS.lcmp X105.here hx rfl (hb hby at_140) rfl ?_
          show Steps p.tables e below (T105.setTop (mkF m 141 #[.val (.long p0), .second, .val (.long p1), .second, .val (.int p2), .val (.long (own_ps p0 p1)), .second, .val (.int (1 : Int32)), .val (.long cc), .second, .val (.long nn), .second, .val (.long (own_ps cc nn)), .second] [(.int (lcmpW (own_ps cc nn) (own_rr cc nn)))])) _
          refine XS.ifNo X105.here hx rfl (hb hby at_141) rfl (own_nf (l0_ne _ _) (own_rr_eq (by rw [h_cc]; exact (own_c23 _ _).1) (by rw [h_cc]; exact (own_c23 _ _).2))) ?_
          show Steps p.tables e below (T105.setTop (mkF m 144 #[.val (.long p0), .second, .val (.long p1), .second, .val (.int p2), .val (.long (own_ps p0 p1)), .second, .val (.int (1 : Int32)), .val (.long cc), .second, .val (.long nn), .second, .val (.long (own_ps cc nn)), .second] [])) _
          refine XS.iconst X105.here hx rfl (hb hby at_144) ?_
          show Steps p.tables e below (T105.setTop (mkF m 145 #[.val (.long p0), .second, .val (.long p1), .second, .val (.int p2), .val (.long (own_ps p0 p1)), .second, .val (.int (1 : Int32)), .val (.long cc), .second, .val (.long nn), .second, .val (.long (own_ps cc nn)), .second] [(.int (1 : Int32))])) _
          refine XS.goto X105.here hx rfl (pc0 := 145) (pc' := 149) rfl (hb hby at_145) (by decide) (by decide) ?_
          show Steps p.tables e below (T105.setTop (mkF m 149 #[.val (.long p0), .second, .val (.long p1), .second, .val (.int p2), .val (.long (own_ps p0 p1)), .second, .val (.int (1 : Int32)), .val (.long cc), .second, .val (.long nn), .second, .val (.long (own_ps cc nn)), .second] [(.int (1 : Int32))])) _
          exact retN X105 hx (t := .boolean) Bd.returns (by simp) (hb hby at_149) hr
      · refine Gl.pre (S' := T101.setTop (mkF m 108 #[.val (.long p0), .second, .val (.long p1), .second, .val (.int p2), .val (.long (own_ps p0 p1)), .second, .val (.int (1 : Int32)), .val (.long (((p0 <<< ((41 : Int32) &&& 0x3f).toInt64) >>> ((41 : Int32) &&& 0x3f).toInt64) >>> ((((p2.toUInt32 >>> ((6 : Int32) &&& 31).toUInt32).toInt32) &&& (31 : Int32)) &&& 0x3f).toInt64)), .second, .unset, .unset, .unset, .unset] [])) (fun t kt => ?_) ?_
        · show Steps p.tables e below (T101.setTop (mkF m 56 #[.val (.long p0), .second, .val (.long p1), .second, .val (.int p2), .val (.long (own_ps p0 p1)), .second, .unset, .unset, .unset, .unset, .unset, .unset, .unset] [(.int (lcmpW p0 (0 : Int64)))])) _
          refine XS.ifYes X101.here hx rfl (pc0 := 56) (pc' := 76) rfl (hb hby at_56) rfl (own_nt (l0_ge _ _) hc56) (by decide) (by decide) ?_
          show Steps p.tables e below (T101.setTop (mkF m 76 #[.val (.long p0), .second, .val (.long p1), .second, .val (.int p2), .val (.long (own_ps p0 p1)), .second, .unset, .unset, .unset, .unset, .unset, .unset, .unset] [])) _
          refine XS.lload X101.here hx rfl (hb hby at_76) rfl ?_
          show Steps p.tables e below (T101.setTop (mkF m 78 #[.val (.long p0), .second, .val (.long p1), .second, .val (.int p2), .val (.long (own_ps p0 p1)), .second, .unset, .unset, .unset, .unset, .unset, .unset, .unset] [(.long (own_ps p0 p1))])) _
          refine XS.lconst X101.here hx rfl (hb hby at_78) ?_
          show Steps p.tables e below (T101.setTop (mkF m 79 #[.val (.long p0), .second, .val (.long p1), .second, .val (.int p2), .val (.long (own_ps p0 p1)), .second, .unset, .unset, .unset, .unset, .unset, .unset, .unset] [(.long (0 : Int64)), (.long (own_ps p0 p1))])) _
          refine XS.lcmp X101.here hx rfl (hb hby at_79) rfl ?_
          show Steps p.tables e below (T101.setTop (mkF m 80 #[.val (.long p0), .second, .val (.long p1), .second, .val (.int p2), .val (.long (own_ps p0 p1)), .second, .unset, .unset, .unset, .unset, .unset, .unset, .unset] [(.int (lcmpW (own_ps p0 p1) (0 : Int64)))])) _
          refine XS.ifNo X101.here hx rfl (hb hby at_80) rfl (own_nf (l0_ne _ _) (own_ps_z hc33 hc56)) ?_
          show Steps p.tables e below (T101.setTop (mkF m 83 #[.val (.long p0), .second, .val (.long p1), .second, .val (.int p2), .val (.long (own_ps p0 p1)), .second, .unset, .unset, .unset, .unset, .unset, .unset, .unset] [])) _
          refine XS.iconst X101.here hx rfl (hb hby at_83) ?_
          show Steps p.tables e below (T101.setTop (mkF m 84 #[.val (.long p0), .second, .val (.long p1), .second, .val (.int p2), .val (.long (own_ps p0 p1)), .second, .unset, .unset, .unset, .unset, .unset, .unset, .unset] [(.int (1 : Int32))])) _
          refine XS.goto X101.here hx rfl (pc0 := 84) (pc' := 88) rfl (hb hby at_84) (by decide) (by decide) ?_
          show Steps p.tables e below (T101.setTop (mkF m 88 #[.val (.long p0), .second, .val (.long p1), .second, .val (.int p2), .val (.long (own_ps p0 p1)), .second, .unset, .unset, .unset, .unset, .unset, .unset, .unset] [(.int (1 : Int32))])) _
          refine XS.istore X101.here hx rfl (hb hby at_88) rfl (l' := #[.val (.long p0), .second, .val (.long p1), .second, .val (.int p2), .val (.long (own_ps p0 p1)), .second, .val (.int (1 : Int32)), .unset, .unset, .unset, .unset, .unset, .unset]) rfl ?_
          show Steps p.tables e below (T101.setTop (mkF m 90 #[.val (.long p0), .second, .val (.long p1), .second, .val (.int p2), .val (.long (own_ps p0 p1)), .second, .val (.int (1 : Int32)), .unset, .unset, .unset, .unset, .unset, .unset] [])) _
          refine XS.lloadN X101.here hx rfl (hb hby at_90) rfl ?_
          show Steps p.tables e below (T101.setTop (mkF m 91 #[.val (.long p0), .second, .val (.long p1), .second, .val (.int p2), .val (.long (own_ps p0 p1)), .second, .val (.int (1 : Int32)), .unset, .unset, .unset, .unset, .unset, .unset] [(.long p0)])) _
          refine XS.bipush X101.here hx rfl (hb hby at_91) ?_
          show Steps p.tables e below (T101.setTop (mkF m 93 #[.val (.long p0), .second, .val (.long p1), .second, .val (.int p2), .val (.long (own_ps p0 p1)), .second, .val (.int (1 : Int32)), .unset, .unset, .unset, .unset, .unset, .unset] [(.int (41 : Int32)), (.long p0)])) _
          refine XS.lshl X101.here hx rfl (hb hby at_93) rfl ?_
          show Steps p.tables e below (T101.setTop (mkF m 94 #[.val (.long p0), .second, .val (.long p1), .second, .val (.int p2), .val (.long (own_ps p0 p1)), .second, .val (.int (1 : Int32)), .unset, .unset, .unset, .unset, .unset, .unset] [(.long (p0 <<< ((41 : Int32) &&& 0x3f).toInt64))])) _
          refine XS.bipush X101.here hx rfl (hb hby at_94) ?_
          show Steps p.tables e below (T101.setTop (mkF m 96 #[.val (.long p0), .second, .val (.long p1), .second, .val (.int p2), .val (.long (own_ps p0 p1)), .second, .val (.int (1 : Int32)), .unset, .unset, .unset, .unset, .unset, .unset] [(.int (41 : Int32)), (.long (p0 <<< ((41 : Int32) &&& 0x3f).toInt64))])) _
          refine XS.lshr X101.here hx rfl (hb hby at_96) rfl ?_
          show Steps p.tables e below (T101.setTop (mkF m 97 #[.val (.long p0), .second, .val (.long p1), .second, .val (.int p2), .val (.long (own_ps p0 p1)), .second, .val (.int (1 : Int32)), .unset, .unset, .unset, .unset, .unset, .unset] [(.long ((p0 <<< ((41 : Int32) &&& 0x3f).toInt64) >>> ((41 : Int32) &&& 0x3f).toInt64))])) _
          refine XS.iload X101.here hx rfl (hb hby at_97) rfl ?_
          show Steps p.tables e below (T101.setTop (mkF m 99 #[.val (.long p0), .second, .val (.long p1), .second, .val (.int p2), .val (.long (own_ps p0 p1)), .second, .val (.int (1 : Int32)), .unset, .unset, .unset, .unset, .unset, .unset] [(.int p2), (.long ((p0 <<< ((41 : Int32) &&& 0x3f).toInt64) >>> ((41 : Int32) &&& 0x3f).toInt64))])) _
          refine XS.bipush X101.here hx rfl (hb hby at_99) ?_
          show Steps p.tables e below (T101.setTop (mkF m 101 #[.val (.long p0), .second, .val (.long p1), .second, .val (.int p2), .val (.long (own_ps p0 p1)), .second, .val (.int (1 : Int32)), .unset, .unset, .unset, .unset, .unset, .unset] [(.int (6 : Int32)), (.int p2), (.long ((p0 <<< ((41 : Int32) &&& 0x3f).toInt64) >>> ((41 : Int32) &&& 0x3f).toInt64))])) _
          refine XS.iushr X101.here hx rfl (hb hby at_101) rfl ?_
          show Steps p.tables e below (T101.setTop (mkF m 102 #[.val (.long p0), .second, .val (.long p1), .second, .val (.int p2), .val (.long (own_ps p0 p1)), .second, .val (.int (1 : Int32)), .unset, .unset, .unset, .unset, .unset, .unset] [(.int ((p2.toUInt32 >>> ((6 : Int32) &&& 31).toUInt32).toInt32)), (.long ((p0 <<< ((41 : Int32) &&& 0x3f).toInt64) >>> ((41 : Int32) &&& 0x3f).toInt64))])) _
          refine XS.bipush X101.here hx rfl (hb hby at_102) ?_
          show Steps p.tables e below (T101.setTop (mkF m 104 #[.val (.long p0), .second, .val (.long p1), .second, .val (.int p2), .val (.long (own_ps p0 p1)), .second, .val (.int (1 : Int32)), .unset, .unset, .unset, .unset, .unset, .unset] [(.int (31 : Int32)), (.int ((p2.toUInt32 >>> ((6 : Int32) &&& 31).toUInt32).toInt32)), (.long ((p0 <<< ((41 : Int32) &&& 0x3f).toInt64) >>> ((41 : Int32) &&& 0x3f).toInt64))])) _
          refine XS.iand X101.here hx rfl (hb hby at_104) rfl ?_
          show Steps p.tables e below (T101.setTop (mkF m 105 #[.val (.long p0), .second, .val (.long p1), .second, .val (.int p2), .val (.long (own_ps p0 p1)), .second, .val (.int (1 : Int32)), .unset, .unset, .unset, .unset, .unset, .unset] [(.int (((p2.toUInt32 >>> ((6 : Int32) &&& 31).toUInt32).toInt32) &&& (31 : Int32))), (.long ((p0 <<< ((41 : Int32) &&& 0x3f).toInt64) >>> ((41 : Int32) &&& 0x3f).toInt64))])) _
          refine XS.lshr X101.here hx rfl (hb hby at_105) rfl ?_
          show Steps p.tables e below (T101.setTop (mkF m 106 #[.val (.long p0), .second, .val (.long p1), .second, .val (.int p2), .val (.long (own_ps p0 p1)), .second, .val (.int (1 : Int32)), .unset, .unset, .unset, .unset, .unset, .unset] [(.long (((p0 <<< ((41 : Int32) &&& 0x3f).toInt64) >>> ((41 : Int32) &&& 0x3f).toInt64) >>> ((((p2.toUInt32 >>> ((6 : Int32) &&& 31).toUInt32).toInt32) &&& (31 : Int32)) &&& 0x3f).toInt64))])) _
          refine XS.lstore X101.here hx rfl (hb hby at_106) rfl (l' := #[.val (.long p0), .second, .val (.long p1), .second, .val (.int p2), .val (.long (own_ps p0 p1)), .second, .val (.int (1 : Int32)), .val (.long (((p0 <<< ((41 : Int32) &&& 0x3f).toInt64) >>> ((41 : Int32) &&& 0x3f).toInt64) >>> ((((p2.toUInt32 >>> ((6 : Int32) &&& 31).toUInt32).toInt32) &&& (31 : Int32)) &&& 0x3f).toInt64)), .second, .unset, .unset, .unset, .unset]) rfl ?_
          exact kt
        obtain ⟨cc, h_cc⟩ : ∃ z : Int64, z = (((p0 <<< ((41 : Int32) &&& 0x3f).toInt64) >>> ((41 : Int32) &&& 0x3f).toInt64) >>> ((((p2.toUInt32 >>> ((6 : Int32) &&& 31).toUInt32).toInt32) &&& (31 : Int32)) &&& 0x3f).toInt64) := ⟨_, rfl⟩
        rw [← h_cc]
        refine Gl.pre (S' := T101.setTop (mkF m 117 #[.val (.long p0), .second, .val (.long p1), .second, .val (.int p2), .val (.long (own_ps p0 p1)), .second, .val (.int (1 : Int32)), .val (.long cc), .second, .val (.long (p1 >>> ((p2 &&& (63 : Int32)) &&& 0x3f).toInt64)), .second, .unset, .unset] [])) (fun t kt => ?_) ?_
        · show Steps p.tables e below (T101.setTop (mkF m 108 #[.val (.long p0), .second, .val (.long p1), .second, .val (.int p2), .val (.long (own_ps p0 p1)), .second, .val (.int (1 : Int32)), .val (.long cc), .second, .unset, .unset, .unset, .unset] [])) _
          refine XS.lloadN X101.here hx rfl (hb hby at_108) rfl ?_
          show Steps p.tables e below (T101.setTop (mkF m 109 #[.val (.long p0), .second, .val (.long p1), .second, .val (.int p2), .val (.long (own_ps p0 p1)), .second, .val (.int (1 : Int32)), .val (.long cc), .second, .unset, .unset, .unset, .unset] [(.long p1)])) _
          refine XS.iload X101.here hx rfl (hb hby at_109) rfl ?_
          show Steps p.tables e below (T101.setTop (mkF m 111 #[.val (.long p0), .second, .val (.long p1), .second, .val (.int p2), .val (.long (own_ps p0 p1)), .second, .val (.int (1 : Int32)), .val (.long cc), .second, .unset, .unset, .unset, .unset] [(.int p2), (.long p1)])) _
          refine XS.bipush X101.here hx rfl (hb hby at_111) ?_
          show Steps p.tables e below (T101.setTop (mkF m 113 #[.val (.long p0), .second, .val (.long p1), .second, .val (.int p2), .val (.long (own_ps p0 p1)), .second, .val (.int (1 : Int32)), .val (.long cc), .second, .unset, .unset, .unset, .unset] [(.int (63 : Int32)), (.int p2), (.long p1)])) _
          refine XS.iand X101.here hx rfl (hb hby at_113) rfl ?_
          show Steps p.tables e below (T101.setTop (mkF m 114 #[.val (.long p0), .second, .val (.long p1), .second, .val (.int p2), .val (.long (own_ps p0 p1)), .second, .val (.int (1 : Int32)), .val (.long cc), .second, .unset, .unset, .unset, .unset] [(.int (p2 &&& (63 : Int32))), (.long p1)])) _
          refine XS.lshr X101.here hx rfl (hb hby at_114) rfl ?_
          show Steps p.tables e below (T101.setTop (mkF m 115 #[.val (.long p0), .second, .val (.long p1), .second, .val (.int p2), .val (.long (own_ps p0 p1)), .second, .val (.int (1 : Int32)), .val (.long cc), .second, .unset, .unset, .unset, .unset] [(.long (p1 >>> ((p2 &&& (63 : Int32)) &&& 0x3f).toInt64))])) _
          refine XS.lstore X101.here hx rfl (hb hby at_115) rfl (l' := #[.val (.long p0), .second, .val (.long p1), .second, .val (.int p2), .val (.long (own_ps p0 p1)), .second, .val (.int (1 : Int32)), .val (.long cc), .second, .val (.long (p1 >>> ((p2 &&& (63 : Int32)) &&& 0x3f).toInt64)), .second, .unset, .unset]) rfl ?_
          exact kt
        obtain ⟨nn, h_nn⟩ : ∃ z : Int64, z = (p1 >>> ((p2 &&& (63 : Int32)) &&& 0x3f).toInt64) := ⟨_, rfl⟩
        rw [← h_nn]
        obtain ⟨v106, T106, L106, X106, q106, st106⟩ := own_callS X101 hx hZ (y := (⟨"com/example/porthcurno/porthcurno/tools/Figures", "perSecond", "(JJ)J"⟩ : MethodName)) hown (hw _ (List.mem_of_getElem? (i := 0) rfl)) (hw _ (List.mem_of_getElem? (i := 1) rfl)) (hw _ (List.mem_of_getElem? (i := 2) rfl)) (hw _ (List.mem_of_getElem? (i := 3) rfl)) (by decide) (hM := (rm1 l Z a0 hw [] cc nn h0 n0 Z0)) (by decide) (by decide) (by decide) (by decide) e101 (argsL := [(.long cc), (.long nn)]) (rest := []) (Ls := #[.val (.long p0), .second, .val (.long p1), .second, .val (.int p2), .val (.long (own_ps p0 p1)), .second, .val (.int (1 : Int32)), .val (.long cc), .second, .val (.long nn), .second, .unset, .unset]) (by rw [hml]; rfl) (lenOf pd__JJ_J rfl) (W := 0) (Nat.le_of_eq rfl) (hb hby at_121)
        obtain ⟨rfl, N106q, e106⟩ := q106
        have N106 := Fr.app N101 N106q
        obtain ⟨v107, T107, L107, X107, q107, st107⟩ := own_callS X106 hx hZ (y := (⟨"com/example/porthcurno/porthcurno/tools/FiguresPerSecondPinLaw", "roundedRate", "(JJ)J"⟩ : MethodName)) hown (hw _ (List.mem_of_getElem? (i := 18) rfl)) (hw _ (List.mem_of_getElem? (i := 19) rfl)) (hw _ (List.mem_of_getElem? (i := 20) rfl)) (hw _ (List.mem_of_getElem? (i := 21) rfl)) (by decide) (hM := (rm3 l Z a0 hw [] cc nn h0 n0 Z0)) (by decide) (by decide) (by decide) (by decide) e106 (argsL := [(.long cc), (.long nn)]) (rest := [(.long (own_ps cc nn))]) (Ls := #[.val (.long p0), .second, .val (.long p1), .second, .val (.int p2), .val (.long (own_ps p0 p1)), .second, .val (.int (1 : Int32)), .val (.long cc), .second, .val (.long nn), .second, .val (.long (own_ps cc nn)), .second]) (by rw [hml]; rfl) (lenOf pd__JJ_J rfl) (W := 2) (Nat.le_of_eq rfl) (hb hby at_137)
        obtain ⟨rfl, N107q, e107⟩ := q107
        have N107 := Fr.app N106 N107q
        refine Gl.fin X107 (v := some (.int (1 : Int32))) (fun h => by rw [Bd.returns] at h; cases h) Bd.notSynchronized ?_ e107 (by decide) (by decide) (fun fs hr => ?_)
        · exact ⟨rfl, N107⟩
        · show Steps p.tables e below (T101.setTop (mkF m 117 #[.val (.long p0), .second, .val (.long p1), .second, .val (.int p2), .val (.long (own_ps p0 p1)), .second, .val (.int (1 : Int32)), .val (.long cc), .second, .val (.long nn), .second, .unset, .unset] [])) _
          refine XS.lload X101.here hx rfl (hb hby at_117) rfl ?_
          show Steps p.tables e below (T101.setTop (mkF m 119 #[.val (.long p0), .second, .val (.long p1), .second, .val (.int p2), .val (.long (own_ps p0 p1)), .second, .val (.int (1 : Int32)), .val (.long cc), .second, .val (.long nn), .second, .unset, .unset] [(.long cc)])) _
          refine XS.lload X101.here hx rfl (hb hby at_119) rfl ?_
          show Steps p.tables e below (T101.setTop (mkF m 121 #[.val (.long p0), .second, .val (.long p1), .second, .val (.int p2), .val (.long (own_ps p0 p1)), .second, .val (.int (1 : Int32)), .val (.long cc), .second, .val (.long nn), .second, .unset, .unset] [(.long nn), (.long cc)])) _
          refine st106 _ ?_
          show Steps p.tables e below (T106.setTop (mkF m 124 #[.val (.long p0), .second, .val (.long p1), .second, .val (.int p2), .val (.long (own_ps p0 p1)), .second, .val (.int (1 : Int32)), .val (.long cc), .second, .val (.long nn), .second, .unset, .unset] [(.long (own_ps cc nn))])) _
          refine XS.lstore X106.here hx rfl (hb hby at_124) rfl (l' := #[.val (.long p0), .second, .val (.long p1), .second, .val (.int p2), .val (.long (own_ps p0 p1)), .second, .val (.int (1 : Int32)), .val (.long cc), .second, .val (.long nn), .second, .val (.long (own_ps cc nn)), .second]) rfl ?_
          show Steps p.tables e below (T106.setTop (mkF m 126 #[.val (.long p0), .second, .val (.long p1), .second, .val (.int p2), .val (.long (own_ps p0 p1)), .second, .val (.int (1 : Int32)), .val (.long cc), .second, .val (.long nn), .second, .val (.long (own_ps cc nn)), .second] [])) _
          refine XS.iload X106.here hx rfl (hb hby at_126) rfl ?_
          show Steps p.tables e below (T106.setTop (mkF m 128 #[.val (.long p0), .second, .val (.long p1), .second, .val (.int p2), .val (.long (own_ps p0 p1)), .second, .val (.int (1 : Int32)), .val (.long cc), .second, .val (.long nn), .second, .val (.long (own_ps cc nn)), .second] [(.int (1 : Int32))])) _
          refine XS.ifNo X106.here hx rfl (hb hby at_128) rfl (own_f (i0_eq _) (by decide)) ?_
          show Steps p.tables e below (T106.setTop (mkF m 131 #[.val (.long p0), .second, .val (.long p1), .second, .val (.int p2), .val (.long (own_ps p0 p1)), .second, .val (.int (1 : Int32)), .val (.long cc), .second, .val (.long nn), .second, .val (.long (own_ps cc nn)), .second] [])) _
          refine XS.lload X106.here hx rfl (hb hby at_131) rfl ?_
          show Steps p.tables e below (T106.setTop (mkF m 133 #[.val (.long p0), .second, .val (.long p1), .second, .val (.int p2), .val (.long (own_ps p0 p1)), .second, .val (.int (1 : Int32)), .val (.long cc), .second, .val (.long nn), .second, .val (.long (own_ps cc nn)), .second] [(.long (own_ps cc nn))])) _
          refine XS.lload X106.here hx rfl (hb hby at_133) rfl ?_
          show Steps p.tables e below (T106.setTop (mkF m 135 #[.val (.long p0), .second, .val (.long p1), .second, .val (.int p2), .val (.long (own_ps p0 p1)), .second, .val (.int (1 : Int32)), .val (.long cc), .second, .val (.long nn), .second, .val (.long (own_ps cc nn)), .second] [(.long cc), (.long (own_ps cc nn))])) _
          refine XS.lload X106.here hx rfl (hb hby at_135) rfl ?_
          show Steps p.tables e below (T106.setTop (mkF m 137 #[.val (.long p0), .second, .val (.long p1), .second, .val (.int p2), .val (.long (own_ps p0 p1)), .second, .val (.int (1 : Int32)), .val (.long cc), .second, .val (.long nn), .second, .val (.long (own_ps cc nn)), .second] [(.long nn), (.long cc), (.long (own_ps cc nn))])) _
          refine st107 _ ?_
          show Steps p.tables e below (T107.setTop (mkF m 140 #[.val (.long p0), .second, .val (.long p1), .second, .val (.int p2), .val (.long (own_ps p0 p1)), .second, .val (.int (1 : Int32)), .val (.long cc), .second, .val (.long nn), .second, .val (.long (own_ps cc nn)), .second] [(.long (own_rr cc nn)), (.long (own_ps cc nn))])) _
          refine XS.lcmp X107.here hx rfl (hb hby at_140) rfl ?_
          show Steps p.tables e below (T107.setTop (mkF m 141 #[.val (.long p0), .second, .val (.long p1), .second, .val (.int p2), .val (.long (own_ps p0 p1)), .second, .val (.int (1 : Int32)), .val (.long cc), .second, .val (.long nn), .second, .val (.long (own_ps cc nn)), .second] [(.int (lcmpW (own_ps cc nn) (own_rr cc nn)))])) _
          refine XS.ifNo X107.here hx rfl (hb hby at_141) rfl (own_nf (l0_ne _ _) (own_rr_eq (by rw [h_cc]; exact (own_c23 _ _).1) (by rw [h_cc]; exact (own_c23 _ _).2))) ?_
          show Steps p.tables e below (T107.setTop (mkF m 144 #[.val (.long p0), .second, .val (.long p1), .second, .val (.int p2), .val (.long (own_ps p0 p1)), .second, .val (.int (1 : Int32)), .val (.long cc), .second, .val (.long nn), .second, .val (.long (own_ps cc nn)), .second] [])) _
          refine XS.iconst X107.here hx rfl (hb hby at_144) ?_
          show Steps p.tables e below (T107.setTop (mkF m 145 #[.val (.long p0), .second, .val (.long p1), .second, .val (.int p2), .val (.long (own_ps p0 p1)), .second, .val (.int (1 : Int32)), .val (.long cc), .second, .val (.long nn), .second, .val (.long (own_ps cc nn)), .second] [(.int (1 : Int32))])) _
          refine XS.goto X107.here hx rfl (pc0 := 145) (pc' := 149) rfl (hb hby at_145) (by decide) (by decide) ?_
          show Steps p.tables e below (T107.setTop (mkF m 149 #[.val (.long p0), .second, .val (.long p1), .second, .val (.int p2), .val (.long (own_ps p0 p1)), .second, .val (.int (1 : Int32)), .val (.long cc), .second, .val (.long nn), .second, .val (.long (own_ps cc nn)), .second] [(.int (1 : Int32))])) _
          exact retN X107 hx (t := .boolean) Bd.returns (by simp) (hb hby at_149) hr
  · refine Gl.pre (S' := T101.setTop (mkF m 108 #[.val (.long p0), .second, .val (.long p1), .second, .val (.int p2), .val (.long (own_ps p0 p1)), .second, .val (.int (1 : Int32)), .val (.long (((p0 <<< ((41 : Int32) &&& 0x3f).toInt64) >>> ((41 : Int32) &&& 0x3f).toInt64) >>> ((((p2.toUInt32 >>> ((6 : Int32) &&& 31).toUInt32).toInt32) &&& (31 : Int32)) &&& 0x3f).toInt64)), .second, .unset, .unset, .unset, .unset] [])) (fun t kt => ?_) ?_
    · show Steps p.tables e below (T101.setTop (mkF m 10 #[.val (.long p0), .second, .val (.long p1), .second, .val (.int p2), .val (.long (own_ps p0 p1)), .second, .unset, .unset, .unset, .unset, .unset, .unset, .unset] [(.int (lcmpW p1 (0 : Int64)))])) _
      refine XS.ifNo X101.here hx rfl (hb hby at_10) rfl (own_f (l0_gt _ _) hc10) ?_
      show Steps p.tables e below (T101.setTop (mkF m 13 #[.val (.long p0), .second, .val (.long p1), .second, .val (.int p2), .val (.long (own_ps p0 p1)), .second, .unset, .unset, .unset, .unset, .unset, .unset, .unset] [])) _
      refine XS.lload X101.here hx rfl (hb hby at_13) rfl ?_
      show Steps p.tables e below (T101.setTop (mkF m 15 #[.val (.long p0), .second, .val (.long p1), .second, .val (.int p2), .val (.long (own_ps p0 p1)), .second, .unset, .unset, .unset, .unset, .unset, .unset, .unset] [(.long (own_ps p0 p1))])) _
      refine XS.lconst X101.here hx rfl (hb hby at_15) ?_
      show Steps p.tables e below (T101.setTop (mkF m 16 #[.val (.long p0), .second, .val (.long p1), .second, .val (.int p2), .val (.long (own_ps p0 p1)), .second, .unset, .unset, .unset, .unset, .unset, .unset, .unset] [(.long (0 : Int64)), (.long (own_ps p0 p1))])) _
      refine XS.lcmp X101.here hx rfl (hb hby at_16) rfl ?_
      show Steps p.tables e below (T101.setTop (mkF m 17 #[.val (.long p0), .second, .val (.long p1), .second, .val (.int p2), .val (.long (own_ps p0 p1)), .second, .unset, .unset, .unset, .unset, .unset, .unset, .unset] [(.int (lcmpW (own_ps p0 p1) (0 : Int64)))])) _
      refine XS.ifNo X101.here hx rfl (hb hby at_17) rfl (own_nf (l0_ne _ _) (own_ps_le hc10)) ?_
      show Steps p.tables e below (T101.setTop (mkF m 20 #[.val (.long p0), .second, .val (.long p1), .second, .val (.int p2), .val (.long (own_ps p0 p1)), .second, .unset, .unset, .unset, .unset, .unset, .unset, .unset] [])) _
      refine XS.iconst X101.here hx rfl (hb hby at_20) ?_
      show Steps p.tables e below (T101.setTop (mkF m 21 #[.val (.long p0), .second, .val (.long p1), .second, .val (.int p2), .val (.long (own_ps p0 p1)), .second, .unset, .unset, .unset, .unset, .unset, .unset, .unset] [(.int (1 : Int32))])) _
      refine XS.goto X101.here hx rfl (pc0 := 21) (pc' := 25) rfl (hb hby at_21) (by decide) (by decide) ?_
      show Steps p.tables e below (T101.setTop (mkF m 25 #[.val (.long p0), .second, .val (.long p1), .second, .val (.int p2), .val (.long (own_ps p0 p1)), .second, .unset, .unset, .unset, .unset, .unset, .unset, .unset] [(.int (1 : Int32))])) _
      refine XS.istore X101.here hx rfl (hb hby at_25) rfl (l' := #[.val (.long p0), .second, .val (.long p1), .second, .val (.int p2), .val (.long (own_ps p0 p1)), .second, .val (.int (1 : Int32)), .unset, .unset, .unset, .unset, .unset, .unset]) rfl ?_
      show Steps p.tables e below (T101.setTop (mkF m 27 #[.val (.long p0), .second, .val (.long p1), .second, .val (.int p2), .val (.long (own_ps p0 p1)), .second, .val (.int (1 : Int32)), .unset, .unset, .unset, .unset, .unset, .unset] [])) _
      refine XS.goto X101.here hx rfl (pc0 := 27) (pc' := 90) rfl (hb hby at_27) (by decide) (by decide) ?_
      show Steps p.tables e below (T101.setTop (mkF m 90 #[.val (.long p0), .second, .val (.long p1), .second, .val (.int p2), .val (.long (own_ps p0 p1)), .second, .val (.int (1 : Int32)), .unset, .unset, .unset, .unset, .unset, .unset] [])) _
      refine XS.lloadN X101.here hx rfl (hb hby at_90) rfl ?_
      show Steps p.tables e below (T101.setTop (mkF m 91 #[.val (.long p0), .second, .val (.long p1), .second, .val (.int p2), .val (.long (own_ps p0 p1)), .second, .val (.int (1 : Int32)), .unset, .unset, .unset, .unset, .unset, .unset] [(.long p0)])) _
      refine XS.bipush X101.here hx rfl (hb hby at_91) ?_
      show Steps p.tables e below (T101.setTop (mkF m 93 #[.val (.long p0), .second, .val (.long p1), .second, .val (.int p2), .val (.long (own_ps p0 p1)), .second, .val (.int (1 : Int32)), .unset, .unset, .unset, .unset, .unset, .unset] [(.int (41 : Int32)), (.long p0)])) _
      refine XS.lshl X101.here hx rfl (hb hby at_93) rfl ?_
      show Steps p.tables e below (T101.setTop (mkF m 94 #[.val (.long p0), .second, .val (.long p1), .second, .val (.int p2), .val (.long (own_ps p0 p1)), .second, .val (.int (1 : Int32)), .unset, .unset, .unset, .unset, .unset, .unset] [(.long (p0 <<< ((41 : Int32) &&& 0x3f).toInt64))])) _
      refine XS.bipush X101.here hx rfl (hb hby at_94) ?_
      show Steps p.tables e below (T101.setTop (mkF m 96 #[.val (.long p0), .second, .val (.long p1), .second, .val (.int p2), .val (.long (own_ps p0 p1)), .second, .val (.int (1 : Int32)), .unset, .unset, .unset, .unset, .unset, .unset] [(.int (41 : Int32)), (.long (p0 <<< ((41 : Int32) &&& 0x3f).toInt64))])) _
      refine XS.lshr X101.here hx rfl (hb hby at_96) rfl ?_
      show Steps p.tables e below (T101.setTop (mkF m 97 #[.val (.long p0), .second, .val (.long p1), .second, .val (.int p2), .val (.long (own_ps p0 p1)), .second, .val (.int (1 : Int32)), .unset, .unset, .unset, .unset, .unset, .unset] [(.long ((p0 <<< ((41 : Int32) &&& 0x3f).toInt64) >>> ((41 : Int32) &&& 0x3f).toInt64))])) _
      refine XS.iload X101.here hx rfl (hb hby at_97) rfl ?_
      show Steps p.tables e below (T101.setTop (mkF m 99 #[.val (.long p0), .second, .val (.long p1), .second, .val (.int p2), .val (.long (own_ps p0 p1)), .second, .val (.int (1 : Int32)), .unset, .unset, .unset, .unset, .unset, .unset] [(.int p2), (.long ((p0 <<< ((41 : Int32) &&& 0x3f).toInt64) >>> ((41 : Int32) &&& 0x3f).toInt64))])) _
      refine XS.bipush X101.here hx rfl (hb hby at_99) ?_
      show Steps p.tables e below (T101.setTop (mkF m 101 #[.val (.long p0), .second, .val (.long p1), .second, .val (.int p2), .val (.long (own_ps p0 p1)), .second, .val (.int (1 : Int32)), .unset, .unset, .unset, .unset, .unset, .unset] [(.int (6 : Int32)), (.int p2), (.long ((p0 <<< ((41 : Int32) &&& 0x3f).toInt64) >>> ((41 : Int32) &&& 0x3f).toInt64))])) _
      refine XS.iushr X101.here hx rfl (hb hby at_101) rfl ?_
      show Steps p.tables e below (T101.setTop (mkF m 102 #[.val (.long p0), .second, .val (.long p1), .second, .val (.int p2), .val (.long (own_ps p0 p1)), .second, .val (.int (1 : Int32)), .unset, .unset, .unset, .unset, .unset, .unset] [(.int ((p2.toUInt32 >>> ((6 : Int32) &&& 31).toUInt32).toInt32)), (.long ((p0 <<< ((41 : Int32) &&& 0x3f).toInt64) >>> ((41 : Int32) &&& 0x3f).toInt64))])) _
      refine XS.bipush X101.here hx rfl (hb hby at_102) ?_
      show Steps p.tables e below (T101.setTop (mkF m 104 #[.val (.long p0), .second, .val (.long p1), .second, .val (.int p2), .val (.long (own_ps p0 p1)), .second, .val (.int (1 : Int32)), .unset, .unset, .unset, .unset, .unset, .unset] [(.int (31 : Int32)), (.int ((p2.toUInt32 >>> ((6 : Int32) &&& 31).toUInt32).toInt32)), (.long ((p0 <<< ((41 : Int32) &&& 0x3f).toInt64) >>> ((41 : Int32) &&& 0x3f).toInt64))])) _
      refine XS.iand X101.here hx rfl (hb hby at_104) rfl ?_
      show Steps p.tables e below (T101.setTop (mkF m 105 #[.val (.long p0), .second, .val (.long p1), .second, .val (.int p2), .val (.long (own_ps p0 p1)), .second, .val (.int (1 : Int32)), .unset, .unset, .unset, .unset, .unset, .unset] [(.int (((p2.toUInt32 >>> ((6 : Int32) &&& 31).toUInt32).toInt32) &&& (31 : Int32))), (.long ((p0 <<< ((41 : Int32) &&& 0x3f).toInt64) >>> ((41 : Int32) &&& 0x3f).toInt64))])) _
      refine XS.lshr X101.here hx rfl (hb hby at_105) rfl ?_
      show Steps p.tables e below (T101.setTop (mkF m 106 #[.val (.long p0), .second, .val (.long p1), .second, .val (.int p2), .val (.long (own_ps p0 p1)), .second, .val (.int (1 : Int32)), .unset, .unset, .unset, .unset, .unset, .unset] [(.long (((p0 <<< ((41 : Int32) &&& 0x3f).toInt64) >>> ((41 : Int32) &&& 0x3f).toInt64) >>> ((((p2.toUInt32 >>> ((6 : Int32) &&& 31).toUInt32).toInt32) &&& (31 : Int32)) &&& 0x3f).toInt64))])) _
      refine XS.lstore X101.here hx rfl (hb hby at_106) rfl (l' := #[.val (.long p0), .second, .val (.long p1), .second, .val (.int p2), .val (.long (own_ps p0 p1)), .second, .val (.int (1 : Int32)), .val (.long (((p0 <<< ((41 : Int32) &&& 0x3f).toInt64) >>> ((41 : Int32) &&& 0x3f).toInt64) >>> ((((p2.toUInt32 >>> ((6 : Int32) &&& 31).toUInt32).toInt32) &&& (31 : Int32)) &&& 0x3f).toInt64)), .second, .unset, .unset, .unset, .unset]) rfl ?_
      exact kt
    obtain ⟨cc, h_cc⟩ : ∃ z : Int64, z = (((p0 <<< ((41 : Int32) &&& 0x3f).toInt64) >>> ((41 : Int32) &&& 0x3f).toInt64) >>> ((((p2.toUInt32 >>> ((6 : Int32) &&& 31).toUInt32).toInt32) &&& (31 : Int32)) &&& 0x3f).toInt64) := ⟨_, rfl⟩
    rw [← h_cc]
    refine Gl.pre (S' := T101.setTop (mkF m 117 #[.val (.long p0), .second, .val (.long p1), .second, .val (.int p2), .val (.long (own_ps p0 p1)), .second, .val (.int (1 : Int32)), .val (.long cc), .second, .val (.long (p1 >>> ((p2 &&& (63 : Int32)) &&& 0x3f).toInt64)), .second, .unset, .unset] [])) (fun t kt => ?_) ?_
    · show Steps p.tables e below (T101.setTop (mkF m 108 #[.val (.long p0), .second, .val (.long p1), .second, .val (.int p2), .val (.long (own_ps p0 p1)), .second, .val (.int (1 : Int32)), .val (.long cc), .second, .unset, .unset, .unset, .unset] [])) _
      refine XS.lloadN X101.here hx rfl (hb hby at_108) rfl ?_
      show Steps p.tables e below (T101.setTop (mkF m 109 #[.val (.long p0), .second, .val (.long p1), .second, .val (.int p2), .val (.long (own_ps p0 p1)), .second, .val (.int (1 : Int32)), .val (.long cc), .second, .unset, .unset, .unset, .unset] [(.long p1)])) _
      refine XS.iload X101.here hx rfl (hb hby at_109) rfl ?_
      show Steps p.tables e below (T101.setTop (mkF m 111 #[.val (.long p0), .second, .val (.long p1), .second, .val (.int p2), .val (.long (own_ps p0 p1)), .second, .val (.int (1 : Int32)), .val (.long cc), .second, .unset, .unset, .unset, .unset] [(.int p2), (.long p1)])) _
      refine XS.bipush X101.here hx rfl (hb hby at_111) ?_
      show Steps p.tables e below (T101.setTop (mkF m 113 #[.val (.long p0), .second, .val (.long p1), .second, .val (.int p2), .val (.long (own_ps p0 p1)), .second, .val (.int (1 : Int32)), .val (.long cc), .second, .unset, .unset, .unset, .unset] [(.int (63 : Int32)), (.int p2), (.long p1)])) _
      refine XS.iand X101.here hx rfl (hb hby at_113) rfl ?_
      show Steps p.tables e below (T101.setTop (mkF m 114 #[.val (.long p0), .second, .val (.long p1), .second, .val (.int p2), .val (.long (own_ps p0 p1)), .second, .val (.int (1 : Int32)), .val (.long cc), .second, .unset, .unset, .unset, .unset] [(.int (p2 &&& (63 : Int32))), (.long p1)])) _
      refine XS.lshr X101.here hx rfl (hb hby at_114) rfl ?_
      show Steps p.tables e below (T101.setTop (mkF m 115 #[.val (.long p0), .second, .val (.long p1), .second, .val (.int p2), .val (.long (own_ps p0 p1)), .second, .val (.int (1 : Int32)), .val (.long cc), .second, .unset, .unset, .unset, .unset] [(.long (p1 >>> ((p2 &&& (63 : Int32)) &&& 0x3f).toInt64))])) _
      refine XS.lstore X101.here hx rfl (hb hby at_115) rfl (l' := #[.val (.long p0), .second, .val (.long p1), .second, .val (.int p2), .val (.long (own_ps p0 p1)), .second, .val (.int (1 : Int32)), .val (.long cc), .second, .val (.long (p1 >>> ((p2 &&& (63 : Int32)) &&& 0x3f).toInt64)), .second, .unset, .unset]) rfl ?_
      exact kt
    obtain ⟨nn, h_nn⟩ : ∃ z : Int64, z = (p1 >>> ((p2 &&& (63 : Int32)) &&& 0x3f).toInt64) := ⟨_, rfl⟩
    rw [← h_nn]
    obtain ⟨v108, T108, L108, X108, q108, st108⟩ := own_callS X101 hx hZ (y := (⟨"com/example/porthcurno/porthcurno/tools/Figures", "perSecond", "(JJ)J"⟩ : MethodName)) hown (hw _ (List.mem_of_getElem? (i := 0) rfl)) (hw _ (List.mem_of_getElem? (i := 1) rfl)) (hw _ (List.mem_of_getElem? (i := 2) rfl)) (hw _ (List.mem_of_getElem? (i := 3) rfl)) (by decide) (hM := (rm1 l Z a0 hw [] cc nn h0 n0 Z0)) (by decide) (by decide) (by decide) (by decide) e101 (argsL := [(.long cc), (.long nn)]) (rest := []) (Ls := #[.val (.long p0), .second, .val (.long p1), .second, .val (.int p2), .val (.long (own_ps p0 p1)), .second, .val (.int (1 : Int32)), .val (.long cc), .second, .val (.long nn), .second, .unset, .unset]) (by rw [hml]; rfl) (lenOf pd__JJ_J rfl) (W := 0) (Nat.le_of_eq rfl) (hb hby at_121)
    obtain ⟨rfl, N108q, e108⟩ := q108
    have N108 := Fr.app N101 N108q
    obtain ⟨v109, T109, L109, X109, q109, st109⟩ := own_callS X108 hx hZ (y := (⟨"com/example/porthcurno/porthcurno/tools/FiguresPerSecondPinLaw", "roundedRate", "(JJ)J"⟩ : MethodName)) hown (hw _ (List.mem_of_getElem? (i := 18) rfl)) (hw _ (List.mem_of_getElem? (i := 19) rfl)) (hw _ (List.mem_of_getElem? (i := 20) rfl)) (hw _ (List.mem_of_getElem? (i := 21) rfl)) (by decide) (hM := (rm3 l Z a0 hw [] cc nn h0 n0 Z0)) (by decide) (by decide) (by decide) (by decide) e108 (argsL := [(.long cc), (.long nn)]) (rest := [(.long (own_ps cc nn))]) (Ls := #[.val (.long p0), .second, .val (.long p1), .second, .val (.int p2), .val (.long (own_ps p0 p1)), .second, .val (.int (1 : Int32)), .val (.long cc), .second, .val (.long nn), .second, .val (.long (own_ps cc nn)), .second]) (by rw [hml]; rfl) (lenOf pd__JJ_J rfl) (W := 2) (Nat.le_of_eq rfl) (hb hby at_137)
    obtain ⟨rfl, N109q, e109⟩ := q109
    have N109 := Fr.app N108 N109q
    refine Gl.fin X109 (v := some (.int (1 : Int32))) (fun h => by rw [Bd.returns] at h; cases h) Bd.notSynchronized ?_ e109 (by decide) (by decide) (fun fs hr => ?_)
    · exact ⟨rfl, N109⟩
    · show Steps p.tables e below (T101.setTop (mkF m 117 #[.val (.long p0), .second, .val (.long p1), .second, .val (.int p2), .val (.long (own_ps p0 p1)), .second, .val (.int (1 : Int32)), .val (.long cc), .second, .val (.long nn), .second, .unset, .unset] [])) _
      refine XS.lload X101.here hx rfl (hb hby at_117) rfl ?_
      show Steps p.tables e below (T101.setTop (mkF m 119 #[.val (.long p0), .second, .val (.long p1), .second, .val (.int p2), .val (.long (own_ps p0 p1)), .second, .val (.int (1 : Int32)), .val (.long cc), .second, .val (.long nn), .second, .unset, .unset] [(.long cc)])) _
      refine XS.lload X101.here hx rfl (hb hby at_119) rfl ?_
      show Steps p.tables e below (T101.setTop (mkF m 121 #[.val (.long p0), .second, .val (.long p1), .second, .val (.int p2), .val (.long (own_ps p0 p1)), .second, .val (.int (1 : Int32)), .val (.long cc), .second, .val (.long nn), .second, .unset, .unset] [(.long nn), (.long cc)])) _
      refine st108 _ ?_
      show Steps p.tables e below (T108.setTop (mkF m 124 #[.val (.long p0), .second, .val (.long p1), .second, .val (.int p2), .val (.long (own_ps p0 p1)), .second, .val (.int (1 : Int32)), .val (.long cc), .second, .val (.long nn), .second, .unset, .unset] [(.long (own_ps cc nn))])) _
      refine XS.lstore X108.here hx rfl (hb hby at_124) rfl (l' := #[.val (.long p0), .second, .val (.long p1), .second, .val (.int p2), .val (.long (own_ps p0 p1)), .second, .val (.int (1 : Int32)), .val (.long cc), .second, .val (.long nn), .second, .val (.long (own_ps cc nn)), .second]) rfl ?_
      show Steps p.tables e below (T108.setTop (mkF m 126 #[.val (.long p0), .second, .val (.long p1), .second, .val (.int p2), .val (.long (own_ps p0 p1)), .second, .val (.int (1 : Int32)), .val (.long cc), .second, .val (.long nn), .second, .val (.long (own_ps cc nn)), .second] [])) _
      refine XS.iload X108.here hx rfl (hb hby at_126) rfl ?_
      show Steps p.tables e below (T108.setTop (mkF m 128 #[.val (.long p0), .second, .val (.long p1), .second, .val (.int p2), .val (.long (own_ps p0 p1)), .second, .val (.int (1 : Int32)), .val (.long cc), .second, .val (.long nn), .second, .val (.long (own_ps cc nn)), .second] [(.int (1 : Int32))])) _
      refine XS.ifNo X108.here hx rfl (hb hby at_128) rfl (own_f (i0_eq _) (by decide)) ?_
      show Steps p.tables e below (T108.setTop (mkF m 131 #[.val (.long p0), .second, .val (.long p1), .second, .val (.int p2), .val (.long (own_ps p0 p1)), .second, .val (.int (1 : Int32)), .val (.long cc), .second, .val (.long nn), .second, .val (.long (own_ps cc nn)), .second] [])) _
      refine XS.lload X108.here hx rfl (hb hby at_131) rfl ?_
      show Steps p.tables e below (T108.setTop (mkF m 133 #[.val (.long p0), .second, .val (.long p1), .second, .val (.int p2), .val (.long (own_ps p0 p1)), .second, .val (.int (1 : Int32)), .val (.long cc), .second, .val (.long nn), .second, .val (.long (own_ps cc nn)), .second] [(.long (own_ps cc nn))])) _
      refine XS.lload X108.here hx rfl (hb hby at_133) rfl ?_
      show Steps p.tables e below (T108.setTop (mkF m 135 #[.val (.long p0), .second, .val (.long p1), .second, .val (.int p2), .val (.long (own_ps p0 p1)), .second, .val (.int (1 : Int32)), .val (.long cc), .second, .val (.long nn), .second, .val (.long (own_ps cc nn)), .second] [(.long cc), (.long (own_ps cc nn))])) _
      refine XS.lload X108.here hx rfl (hb hby at_135) rfl ?_
      show Steps p.tables e below (T108.setTop (mkF m 137 #[.val (.long p0), .second, .val (.long p1), .second, .val (.int p2), .val (.long (own_ps p0 p1)), .second, .val (.int (1 : Int32)), .val (.long cc), .second, .val (.long nn), .second, .val (.long (own_ps cc nn)), .second] [(.long nn), (.long cc), (.long (own_ps cc nn))])) _
      refine st109 _ ?_
      show Steps p.tables e below (T109.setTop (mkF m 140 #[.val (.long p0), .second, .val (.long p1), .second, .val (.int p2), .val (.long (own_ps p0 p1)), .second, .val (.int (1 : Int32)), .val (.long cc), .second, .val (.long nn), .second, .val (.long (own_ps cc nn)), .second] [(.long (own_rr cc nn)), (.long (own_ps cc nn))])) _
      refine XS.lcmp X109.here hx rfl (hb hby at_140) rfl ?_
      show Steps p.tables e below (T109.setTop (mkF m 141 #[.val (.long p0), .second, .val (.long p1), .second, .val (.int p2), .val (.long (own_ps p0 p1)), .second, .val (.int (1 : Int32)), .val (.long cc), .second, .val (.long nn), .second, .val (.long (own_ps cc nn)), .second] [(.int (lcmpW (own_ps cc nn) (own_rr cc nn)))])) _
      refine XS.ifNo X109.here hx rfl (hb hby at_141) rfl (own_nf (l0_ne _ _) (own_rr_eq (by rw [h_cc]; exact (own_c23 _ _).1) (by rw [h_cc]; exact (own_c23 _ _).2))) ?_
      show Steps p.tables e below (T109.setTop (mkF m 144 #[.val (.long p0), .second, .val (.long p1), .second, .val (.int p2), .val (.long (own_ps p0 p1)), .second, .val (.int (1 : Int32)), .val (.long cc), .second, .val (.long nn), .second, .val (.long (own_ps cc nn)), .second] [])) _
      refine XS.iconst X109.here hx rfl (hb hby at_144) ?_
      show Steps p.tables e below (T109.setTop (mkF m 145 #[.val (.long p0), .second, .val (.long p1), .second, .val (.int p2), .val (.long (own_ps p0 p1)), .second, .val (.int (1 : Int32)), .val (.long cc), .second, .val (.long nn), .second, .val (.long (own_ps cc nn)), .second] [(.int (1 : Int32))])) _
      refine XS.goto X109.here hx rfl (pc0 := 145) (pc' := 149) rfl (hb hby at_145) (by decide) (by decide) ?_
      show Steps p.tables e below (T109.setTop (mkF m 149 #[.val (.long p0), .second, .val (.long p1), .second, .val (.int p2), .val (.long (own_ps p0 p1)), .second, .val (.int (1 : Int32)), .val (.long cc), .second, .val (.long nn), .second, .val (.long (own_ps cc nn)), .second] [(.int (1 : Int32))])) _
      exact retN X109 hx (t := .boolean) Bd.returns (by simp) (hb hby at_149) hr
set_option maxRecDepth 65536 in
set_option maxHeartbeats 40000000 in
theorem comes_1 {Post : Tables → Env → Array Value → State → Outcome → State → Prop} (hpost : ∀ tb e args s v u, (limb_1_1.after args s (.returned v) u = true ∧ limb_1_2.after args s (.returned v) u = true ∧ True) → FrameEnd s (.returned v) u (Jvm.fieldLocs frame_1_writes args s ++ Jvm.arrayLocs frame_1_arrays args s ++ Jvm.staticLocs frame_1_statics s) 0 0 → Post tb e args s (.returned v) u) :
    ArmFor flags0 classFile x code maxLocals ret World_1 tables_1 room_1 Calls_1 rest_1 Pre_1 Post := by
  intro l hfl _ _ p e ha hc hk s m args below hf hA hF happ hP
  obtain ⟨hcalls, hrest, hpre⟩ := hP
  obtain ⟨-, -, -, hnamed, -, -, -, hat⟩ := (Spec.applies_iff hf).mp happ
  obtain ⟨hg, hn⟩ := and_e (Cond.before_iff.mp (show (Jvm.Cond.and given_1 narrow_1).before args s = true from hpre))
  obtain ⟨hq0, hr0⟩ := and_e hg
  obtain ⟨hq1, hr1⟩ := and_e hr0
  obtain ⟨hq2, hr2⟩ := and_e hr1
  obtain ⟨w0, w1, w2, rfl⟩ : ∃ w0 w1 w2 : Value, args = #[w0, w1, w2] := by
    have hs : args.size = 3 := by simpa [Cond.value, given_1] using hq0
    obtain ⟨L⟩ := args
    match L, hs with
    | [w0, w1, w2], _ => exact ⟨w0, w1, w2, rfl⟩
  have hw := fun d (hd : d ∈ tables_1) => atoms_spec (ws := Jvm.Cond.code x code maxLocals ret :: tables_1) hat d (List.mem_cons_of_mem _ hd)
  have hfit : Fit s := fun {y c} hc i hi => by
    obtain ⟨ha, rfl⟩ := Array.getElem?_eq_some_iff.mp hc
    have q := List.all_eq_true.mp ((Array.all_eq_true_iff_forall_mem.mp hF) _ (Array.getElem_mem ha)) i (List.mem_range.mpr hi)
    simpa [Array.getElem?_eq_getElem hi] using q
  obtain ⟨i0, ei0⟩ := isL_v hq1
  obtain rfl : w0 = (.long i0) := Option.some.inj ei0
  obtain ⟨i1, ei1⟩ := isL_v hq2
  obtain rfl : w1 = (.long i1) := Option.some.inj ei1
  obtain ⟨i2, ei2⟩ := is_v hr2
  obtain rfl : w2 = (.int i2) := Option.some.inj ei2
  obtain ⟨n, o, h1, h2, h3, _, L, rfl, ⟨rfl, N⟩, hq⟩ := rm0 l s _ hw tables_1 i0 i1 i2 s.heap s.heap.size (Nat.le_refl _) p e ha hc hk s m _ below hf ((Spec.applies_iff_loose hf).mp happ).1 ⟨rfl, State.Warmed39.refl s, rfl⟩ trivial
  refine ⟨n, _, h1, h2, h3, hpost _ _ _ _ _ _ ⟨Cond.after_iff.mpr rfl, Cond.after_iff.mpr (eq_i res_at (Term.int_eval (1)) rfl), trivial⟩ ⟨hq.1, hq.2.1, (hq.2.2.sift fun y hy => Or.inr (N y hy)).mono (by decide) (by decide)⟩⟩
theorem main_1_1 : Claimed_1_1 := comes_1 fun _ _ _ _ _ _ h hF => ⟨h.1, hF⟩
theorem main_1_2 : Claimed_1_2 := comes_1 fun _ _ _ _ _ _ h hF => ⟨h.2.1, hF⟩
end Jvm.Pilot.@@N@@
namespace Jvm.Pilot.@@N@@
open Jvm Jvm.ClassFile Sem Op Lib Jvm.Free Jvm.Stand Jvm.Pilot.@@N@@.Jvm.D
/-! MADE BY PROGRAM (witnessworld.py) out of the Statement's table words and the real class files: 15 classes; the members and pool entries that the words name. The judged class is class 1, her method 2. -/
namespace start1
open Jvm.ClassFile
def u (s : String) : CpInfo := .utf8 (stringToUtf16 s)
/-- a pool by its gaps: so many unusable entries, then the entry; so many at the end -/
def gap : Nat → List CpInfo → List CpInfo
  | 0, r => r
  | n + 1, r => .unusable :: gap n r
def poolList (es : List (Nat × CpInfo)) (last : Nat) : List CpInfo := es.foldr (fun e r => gap e.1 (e.2 :: r)) (gap last [])
def pool (es : List (Nat × CpInfo)) (last : Nat) : Array CpInfo := ⟨poolList es last⟩
def fileOf (pool : Array CpInfo) (this : Nat) (attrs : Array Attribute := #[]) (ms : Array MethodInfo := #[]) (fl : Nat := 33) (sup : Nat := 0) (ifs : Array Nat := #[]) (fds : Array FieldInfo := #[]) : ClassFile where
  minorVersion := 0
  majorVersion := 65
  constantPool := pool
  accessFlags := fl
  thisClass := this
  superClass := sup
  interfaces := ifs
  fields := fds
  methods := ms
  attributes := attrs
def plain (name : String) (sup : Option ClassId) : Class where
  name := name
  kind := .ordinary
  loader := none
  accessFlags := 33
  super := sup
  interfaces := #[]
  cf := none
  fields := #[]
  methods := #[]
  instanceTypes := #[]
  staticTypes := #[]
  resolved := #[]
  callSites := []
  init := .initialized
  statics := none
  mirror := none

def pool0 : Array CpInfo := pool [(5, u "<init>"), (0, u "()V"), (1, .class_ 10), (1, u "java/lang/Object")] 113

def k0m0 : Method := { name := "<init>", desc := "()V", sig := { parameters := [], returnType := none }, accessFlags := 1, code := none }
/-- java/lang/Object -/
def k0 : Class := { plain "java/lang/Object" none with
  accessFlags := 33
  interfaces := #[]
  cf := some (fileOf pool0 8 #[] #[{ accessFlags := 1, nameIndex := 5, descriptorIndex := 6, attributes := #[] }] 33 0 #[] #[])
  fields := #[]
  methods := #[k0m0]
  instanceTypes := #[]
  staticTypes := #[]
  resolved := Array.replicate 124 none
  statics := none }

def pool1 : Array CpInfo := pool [(2, .class_ 4), (1, u "java/lang/Object"), (0, u "<init>"), (0, u "()V"), (0, .long 1000000000), (1, .methodref 10 11), (0, .class_ 12), (0, .nameAndType 13 14), (0, u "com/example/porthcurno/porthcurno/tools/Figures"), (0, u "perSecond"), (0, u "(JJ)J"), (0, .methodref 16 17), (0, .class_ 18), (0, .nameAndType 19 14), (0, u "com/example/porthcurno/porthcurno/tools/FiguresPerSecondPinLaw"), (0, u "roundedRate"), (3, u "law"), (0, u "(JJI)Z")] 2

def k1m0 : Method := { name := "<init>", desc := "()V", sig := { parameters := [], returnType := none }, accessFlags := 2, code := none }
def k1c1 : Code := { maxStack := 6, maxLocals := 10, code := method_2_code, exceptionTable := #[], attributes := #[] }
def k1m1 : Method := { name := "roundedRate", desc := "(JJ)J", sig := { parameters := [.long, .long], returnType := some .long }, accessFlags := 10, code := some k1c1 }
def k1c2 : Code := { maxStack := 6, maxLocals := 14, code := code, exceptionTable := #[], attributes := #[] }
def k1m2 : Method := { name := "law", desc := "(JJI)Z", sig := { parameters := [.long, .long, .int], returnType := some .boolean }, accessFlags := 9, code := some k1c2 }
/-- com/example/porthcurno/porthcurno/tools/FiguresPerSecondPinLaw -/
def k1 : Class := { plain "com/example/porthcurno/porthcurno/tools/FiguresPerSecondPinLaw" (some 0) with
  accessFlags := 49
  interfaces := #[]
  cf := some (fileOf pool1 16 #[] #[{ accessFlags := 2, nameIndex := 5, descriptorIndex := 6, attributes := #[] }, { accessFlags := 10, nameIndex := 19, descriptorIndex := 14, attributes := #[] }, { accessFlags := 9, nameIndex := 23, descriptorIndex := 24, attributes := #[] }] 49 2 #[] #[])
  fields := #[]
  methods := #[k1m0, k1m1, k1m2]
  instanceTypes := #[]
  staticTypes := #[]
  resolved := Array.replicate 27 none
  statics := none }

def pool2 : Array CpInfo := pool [(2, .class_ 4), (1, u "java/lang/Object"), (0, u "<init>"), (0, u "()V"), (8, .class_ 16), (0, u "com/example/porthcurno/porthcurno/tools/Figures"), (0, .double 4741671816366391296), (15, .methodref 34 35), (0, .class_ 36), (0, .nameAndType 37 38), (0, u "java/lang/Math"), (0, u "round"), (0, u "(D)J"), (0, u "NANOS_PER_SECOND"), (0, u "D"), (1, u "NANOS_PER_MILLI"), (6, u "perSecond"), (0, u "(JJ)J")] 3

def k2m0 : Method := { name := "<init>", desc := "()V", sig := { parameters := [], returnType := none }, accessFlags := 2, code := none }
def k2c1 : Code := { maxStack := 4, maxLocals := 4, code := prog_55_method_4_code, exceptionTable := #[], attributes := #[] }
def k2m1 : Method := { name := "perSecond", desc := "(JJ)J", sig := { parameters := [.long, .long], returnType := some .long }, accessFlags := 8, code := some k2c1 }
/-- com/example/porthcurno/porthcurno/tools/Figures -/
def k2 : Class := { plain "com/example/porthcurno/porthcurno/tools/Figures" (some 0) with
  accessFlags := 32
  interfaces := #[]
  cf := some (fileOf pool2 15 #[] #[{ accessFlags := 2, nameIndex := 5, descriptorIndex := 6, attributes := #[] }, { accessFlags := 8, nameIndex := 49, descriptorIndex := 50, attributes := #[] }] 32 2 #[] #[{ accessFlags := 26, nameIndex := 39, descriptorIndex := 40, attributes := #[] }, { accessFlags := 26, nameIndex := 42, descriptorIndex := 40, attributes := #[] }])
  fields := #[{ name := "NANOS_PER_SECOND", type := .double, accessFlags := 26, slot := 0, constantValue := 0 }, { name := "NANOS_PER_MILLI", type := .double, accessFlags := 26, slot := 1, constantValue := 0 }]
  methods := #[k2m0, k2m1]
  instanceTypes := #[]
  staticTypes := #[.double, .double]
  resolved := Array.replicate 54 none
  statics := none }

def pool3 : Array CpInfo := pool [(1, .class_ 2), (0, u "java/lang/Math"), (1, .class_ 6), (1, u "java/lang/Object"), (0, u "<init>"), (0, u "()V"), (70, .methodref 80 81), (0, .class_ 82), (0, .nameAndType 83 84), (0, u "java/lang/Double"), (0, u "doubleToRawLongBits"), (0, u "(D)J"), (2, .long 9218868437227405312), (1, .long 1074), (1, .long 18446744073709551552), (1, .long 4503599627370495), (1, .long 4503599627370496), (2, .class_ 100), (1, u "java/lang/Math$RandomNumberGeneratorHolder"), (71, u "negativeZeroFloatBits"), (0, u "J"), (2, u "negativeZeroDoubleBits"), (68, u "$assertionsDisabled"), (0, u "Z"), (91, u "twoToTheDoubleScaleDown"), (0, u "D"), (4, u "twoToTheDoubleScaleUp"), (9, u "E"), (3, u "PI"), (2, u "TAU"), (2, u "DEGREES_TO_RADIANS"), (0, u "RADIANS_TO_DEGREES"), (17, u "round")] 76

def k3m0 : Method := { name := "<init>", desc := "()V", sig := { parameters := [], returnType := none }, accessFlags := 2, code := none }
def k3c1 : Code := { maxStack := 4, maxLocals := 10, code := jdk_29_method_22_code, exceptionTable := #[], attributes := #[] }
def k3m1 : Method := { name := "round", desc := "(D)J", sig := { parameters := [.double], returnType := some .long }, accessFlags := 9, code := some k3c1 }
/-- java/lang/Math -/
def k3 : Class := { plain "java/lang/Math" (some 0) with
  accessFlags := 49
  interfaces := #[]
  cf := some (fileOf pool3 1 #[.nestMembers #[98]] #[{ accessFlags := 2, nameIndex := 7, descriptorIndex := 8, attributes := #[] }, { accessFlags := 9, nameIndex := 383, descriptorIndex := 84, attributes := #[] }] 49 4 #[] #[{ accessFlags := 25, nameIndex := 354, descriptorIndex := 339, attributes := #[] }, { accessFlags := 25, nameIndex := 358, descriptorIndex := 339, attributes := #[] }, { accessFlags := 25, nameIndex := 361, descriptorIndex := 339, attributes := #[] }, { accessFlags := 26, nameIndex := 364, descriptorIndex := 339, attributes := #[] }, { accessFlags := 26, nameIndex := 365, descriptorIndex := 339, attributes := #[] }, { accessFlags := 26, nameIndex := 172, descriptorIndex := 173, attributes := #[] }, { accessFlags := 26, nameIndex := 176, descriptorIndex := 173, attributes := #[] }, { accessFlags := 8, nameIndex := 344, descriptorIndex := 339, attributes := #[] }, { accessFlags := 8, nameIndex := 338, descriptorIndex := 339, attributes := #[] }, { accessFlags := 4120, nameIndex := 245, descriptorIndex := 246, attributes := #[] }])
  fields := #[{ name := "E", type := .double, accessFlags := 25, slot := 0, constantValue := 0 }, { name := "PI", type := .double, accessFlags := 25, slot := 1, constantValue := 0 }, { name := "TAU", type := .double, accessFlags := 25, slot := 2, constantValue := 0 }, { name := "DEGREES_TO_RADIANS", type := .double, accessFlags := 26, slot := 3, constantValue := 0 }, { name := "RADIANS_TO_DEGREES", type := .double, accessFlags := 26, slot := 4, constantValue := 0 }, { name := "negativeZeroFloatBits", type := .long, accessFlags := 26, slot := 5, constantValue := 0 }, { name := "negativeZeroDoubleBits", type := .long, accessFlags := 26, slot := 6, constantValue := 0 }, { name := "twoToTheDoubleScaleUp", type := .double, accessFlags := 8, slot := 7, constantValue := 0 }, { name := "twoToTheDoubleScaleDown", type := .double, accessFlags := 8, slot := 8, constantValue := 0 }, { name := "$assertionsDisabled", type := .boolean, accessFlags := 4120, slot := 9, constantValue := 0 }]
  methods := #[k3m0, k3m1]
  instanceTypes := #[]
  staticTypes := #[.double, .double, .double, .double, .double, .long, .long, .double, .double, .boolean]
  resolved := Array.replicate 460 none
  statics := none }

def pool4 : Array CpInfo := pool [(1, .class_ 2), (0, u "java/io/Serializable"), (0, .class_ 4), (0, u "java/lang/Object")] 2

/-- java/io/Serializable -/
def k4 : Class := { plain "java/io/Serializable" (some 0) with
  accessFlags := 1537
  interfaces := #[]
  cf := some (fileOf pool4 1 #[] #[] 1537 3 #[] #[])
  fields := #[]
  methods := #[]
  instanceTypes := #[]
  staticTypes := #[]
  resolved := Array.replicate 7 none
  statics := none }

def pool5 : Array CpInfo := pool [(2, .class_ 4), (1, u "java/lang/Object"), (0, u "<init>"), (0, u "()V"), (1, .class_ 10), (1, u "java/lang/Number"), (2, .class_ 14), (0, u "java/io/Serializable"), (0, u "serialVersionUID"), (0, u "J")] 20

def k5m0 : Method := { name := "<init>", desc := "()V", sig := { parameters := [], returnType := none }, accessFlags := 1, code := none }
/-- java/lang/Number -/
def k5 : Class := { plain "java/lang/Number" (some 0) with
  accessFlags := 1057
  interfaces := #[4]
  cf := some (fileOf pool5 8 #[] #[{ accessFlags := 1, nameIndex := 5, descriptorIndex := 6, attributes := #[] }] 1057 2 #[13] #[{ accessFlags := 26, nameIndex := 15, descriptorIndex := 16, attributes := #[] }])
  fields := #[{ name := "serialVersionUID", type := .long, accessFlags := 26, slot := 0, constantValue := 0 }]
  methods := #[k5m0]
  instanceTypes := #[]
  staticTypes := #[.long]
  resolved := Array.replicate 37 none
  statics := none }

def pool6 : Array CpInfo := pool [(1, .class_ 2), (0, u "java/lang/Comparable"), (0, .class_ 4), (0, u "java/lang/Object")] 7

/-- java/lang/Comparable -/
def k6 : Class := { plain "java/lang/Comparable" (some 0) with
  accessFlags := 1537
  interfaces := #[]
  cf := some (fileOf pool6 1 #[] #[] 1537 3 #[] #[])
  fields := #[]
  methods := #[]
  instanceTypes := #[]
  staticTypes := #[]
  resolved := Array.replicate 12 none
  statics := none }

def pool7 : Array CpInfo := pool [(1, .class_ 2), (0, u "java/lang/constant/Constable"), (0, .class_ 4), (0, u "java/lang/Object")] 6

/-- java/lang/constant/Constable -/
def k7 : Class := { plain "java/lang/constant/Constable" (some 0) with
  accessFlags := 1537
  interfaces := #[]
  cf := some (fileOf pool7 1 #[] #[] 1537 3 #[] #[])
  fields := #[]
  methods := #[]
  instanceTypes := #[]
  staticTypes := #[]
  resolved := Array.replicate 11 none
  statics := none }

def pool8 : Array CpInfo := pool [(1, .class_ 2), (0, u "java/lang/constant/ConstantDesc"), (0, .class_ 4), (0, u "java/lang/Object")] 32

/-- java/lang/constant/ConstantDesc -/
def k8 : Class := { plain "java/lang/constant/ConstantDesc" (some 0) with
  accessFlags := 1537
  interfaces := #[]
  cf := some (fileOf pool8 1 #[] #[] 1537 3 #[] #[])
  fields := #[]
  methods := #[]
  instanceTypes := #[]
  staticTypes := #[]
  resolved := Array.replicate 37 none
  statics := none }

def pool9 : Array CpInfo := pool [(1, .class_ 2), (0, u "java/lang/Double"), (46, u "(D)J"), (64, .class_ 116), (1, u "java/lang/Number"), (3, u "value"), (0, u "D"), (14, u "doubleToRawLongBits"), (36, u "TYPE"), (0, u "Ljava/lang/Class;"), (0, .class_ 176), (0, u "java/lang/Comparable"), (0, .class_ 178), (0, u "java/lang/constant/Constable"), (0, .class_ 180), (0, u "java/lang/constant/ConstantDesc"), (0, u "POSITIVE_INFINITY"), (3, u "NEGATIVE_INFINITY"), (2, u "NaN"), (2, u "MAX_VALUE"), (0, u "MIN_NORMAL"), (0, u "MIN_VALUE"), (2, u "SIZE"), (0, u "I"), (1, u "PRECISION"), (1, u "MAX_EXPONENT"), (1, u "MIN_EXPONENT"), (1, u "BYTES"), (3, u "serialVersionUID"), (0, u "J")] 79

def k9m0 : Method := { name := "doubleToRawLongBits", desc := "(D)J", sig := { parameters := [.double], returnType := some .long }, accessFlags := 265, code := none }
/-- java/lang/Double -/
def k9 : Class := { plain "java/lang/Double" (some 5) with
  accessFlags := 49
  interfaces := #[6, 7, 8]
  cf := some (fileOf pool9 1 #[] #[{ accessFlags := 265, nameIndex := 136, descriptorIndex := 49, attributes := #[] }] 49 114 #[175, 177, 179] #[{ accessFlags := 25, nameIndex := 181, descriptorIndex := 121, attributes := #[] }, { accessFlags := 25, nameIndex := 185, descriptorIndex := 121, attributes := #[] }, { accessFlags := 25, nameIndex := 188, descriptorIndex := 121, attributes := #[] }, { accessFlags := 25, nameIndex := 191, descriptorIndex := 121, attributes := #[] }, { accessFlags := 25, nameIndex := 192, descriptorIndex := 121, attributes := #[] }, { accessFlags := 25, nameIndex := 193, descriptorIndex := 121, attributes := #[] }, { accessFlags := 25, nameIndex := 196, descriptorIndex := 197, attributes := #[] }, { accessFlags := 25, nameIndex := 199, descriptorIndex := 197, attributes := #[] }, { accessFlags := 25, nameIndex := 201, descriptorIndex := 197, attributes := #[] }, { accessFlags := 25, nameIndex := 203, descriptorIndex := 197, attributes := #[] }, { accessFlags := 25, nameIndex := 205, descriptorIndex := 197, attributes := #[] }, { accessFlags := 25, nameIndex := 173, descriptorIndex := 174, attributes := #[] }, { accessFlags := 18, nameIndex := 120, descriptorIndex := 121, attributes := #[] }, { accessFlags := 26, nameIndex := 209, descriptorIndex := 210, attributes := #[] }])
  fields := #[{ name := "POSITIVE_INFINITY", type := .double, accessFlags := 25, slot := 0, constantValue := 0 }, { name := "NEGATIVE_INFINITY", type := .double, accessFlags := 25, slot := 1, constantValue := 0 }, { name := "NaN", type := .double, accessFlags := 25, slot := 2, constantValue := 0 }, { name := "MAX_VALUE", type := .double, accessFlags := 25, slot := 3, constantValue := 0 }, { name := "MIN_NORMAL", type := .double, accessFlags := 25, slot := 4, constantValue := 0 }, { name := "MIN_VALUE", type := .double, accessFlags := 25, slot := 5, constantValue := 0 }, { name := "SIZE", type := .int, accessFlags := 25, slot := 6, constantValue := 0 }, { name := "PRECISION", type := .int, accessFlags := 25, slot := 7, constantValue := 0 }, { name := "MAX_EXPONENT", type := .int, accessFlags := 25, slot := 8, constantValue := 0 }, { name := "MIN_EXPONENT", type := .int, accessFlags := 25, slot := 9, constantValue := 0 }, { name := "BYTES", type := .int, accessFlags := 25, slot := 10, constantValue := 0 }, { name := "TYPE", type := (.object "java/lang/Class"), accessFlags := 25, slot := 11, constantValue := 0 }, { name := "value", type := .double, accessFlags := 18, slot := 0, constantValue := 0 }, { name := "serialVersionUID", type := .long, accessFlags := 26, slot := 12, constantValue := 0 }]
  methods := #[k9m0]
  instanceTypes := #[.double]
  staticTypes := #[.double, .double, .double, .double, .double, .double, .int, .int, .int, .int, .int, (.object "java/lang/Class"), .long]
  resolved := Array.replicate 290 none
  statics := none }

def pool10 : Array CpInfo := pool [(1, u "java/lang/Cloneable"), (0, .class_ 1), (0, u "java/lang/Object"), (0, .class_ 3)] 3

/-- java/lang/Cloneable -/
def k10 : Class := { plain "java/lang/Cloneable" (some 0) with
  accessFlags := 1537
  interfaces := #[]
  cf := some (fileOf pool10 2 #[] #[] 1537 4 #[] #[])
  fields := #[]
  methods := #[]
  instanceTypes := #[]
  staticTypes := #[]
  resolved := Array.replicate 8 none
  statics := none }

/-- the primitive byte -/
def k11 : Class := { plain "byte" none with kind := .primitive 'B', accessFlags := 0x411 }
/-- [B -/
def k12 : Class := { plain "[B" (some 0) with kind := .array 11 .byte, interfaces := #[10, 4], accessFlags := 1041 }

/-- the primitive int -/
def k13 : Class := { plain "int" none with kind := .primitive 'I', accessFlags := 0x411 }
/-- [I -/
def k14 : Class := { plain "[I" (some 0) with kind := .array 13 .int, interfaces := #[10, 4], accessFlags := 1041 }

def heap : Heap := #[]
def classes : Array Class := #[k0, k1, k2, k3, k4, k5, k6, k7, k8, k9, k10, k11, k12, k13, k14]
def interned : List (Array UInt16 × Addr) := []
def slotsUsed : Nat := 0
def theMethod : MethodId := ⟨1, 2⟩
def args0 : Array Value := #[.long 5, .long 7, .int 3]
def aboutOver (below : List Frame) : State where
  vm := { classes := classes, interned := interned.toArray }
  heap := heap
  slotsUsed := slotsUsed
  threads := #[{ frames := .invoking theMethod args0 :: below }]
def below0 : List Frame := [.native { method := ⟨0, 0⟩, args := #[] }]
def about1 : State := aboutOver below0
def p0 : Program := .bare "" "" ""
def e0 : Env := launch0.env 0 0 0
theorem w_frames : about1.frames = Frame.invoking theMethod args0 :: below0 := rfl
set_option maxRecDepth 65536 in
theorem w_args : argsFit about1.vm theMethod args0 = true := by decide +kernel
set_option maxRecDepth 65536 in
theorem w_heap : heapFits about1 = true := by decide +kernel
set_option maxRecDepth 65536 in
theorem w_runnable : about1.curStatus? = some .runnable := by decide +kernel
set_option maxRecDepth 65536 in
theorem w_alone : about1.alone = true := by decide +kernel
set_option maxRecDepth 65536 in
theorem w_named : about1.methodNamed? x = some theMethod := by decide +kernel
set_option maxRecDepth 65536 in
theorem w_hears : about1.hears theMethod below0 = true := by decide +kernel
set_option maxRecDepth 65536 in
theorem w_ripe : about1.ripe theMethod args0 below0 = true := by decide +kernel
theorem w_running : about1.status = .running := rfl
set_option maxRecDepth 65536 in
theorem w_room : about1.hasRoom e0.platform room_1 = true :=
  launch0.hasRoom_least _ room_1 (by decide +kernel) (by decide +kernel) (by decide +kernel) (by decide +kernel) (by decide +kernel) (by decide +kernel)
theorem allAtoms_all (ts : List Jvm.Cond) (a : Array Jvm.Value) (st : Jvm.State) : (allAtoms ts).before a st = ts.all (fun c => c.before a st) := by
  induction ts with
  | nil => rfl
  | cons c t ih =>
    show (Jvm.Cond.and c (allAtoms t)).before a st = _
    rw [Jvm.Cond.before_and, ih, List.all_cons]
def words1 : List Jvm.Cond := Jvm.Cond.code x code maxLocals ret :: tables_1
/-- a 'code' word, met by the world's own term for the bytes: nothing is compared byte by byte -/
theorem code_word {y : MethodName} {bytes : ByteArray} {mx : Nat} {rt : Option FieldType} {a : Array Value} {s : State} {m : MethodId} {meth : Method} {c : Code} (h1 : s.methodNamed? y = some m) (h2 : s.vm.method? m = some meth) (h3 : meth.code = some c) (h4 : c.code = bytes)
    (h5 : (c.maxLocals == mx && c.exceptionTable.isEmpty && decide (c.maxStack ≤ mostOperands) && decide (meth.sig.returnType = rt) && !meth.locks && decide (parseMethodDescriptor y.desc = some meth.sig)) = true) : (Jvm.Cond.code y bytes mx rt).before a s = true := by
  simp only [Bool.and_eq_true, beq_iff_eq, Bool.not_eq_true', decide_eq_true_eq] at h5
  obtain ⟨⟨⟨⟨⟨g1, g2⟩, g3⟩, g4⟩, g5⟩, g6⟩ := h5
  simp [Cond.before, Cond.holds, Cond.value, h1, h2, h3, h4, g1, g2, g3, g4, g5, g6]
def isCode : Jvm.Cond → Bool
  | .code _ _ _ _ => true
  | _ => false
theorem all_split {L : List Jvm.Cond} {P : Jvm.Cond → Bool} (h1 : L.all (fun c => isCode c || P c) = true) (h2 : ∀ c ∈ L.filter isCode, P c = true) : L.all P = true := by
  refine List.all_eq_true.mpr fun c hc => ?_
  have h := List.all_eq_true.mp h1 c hc
  rcases Bool.eq_false_or_eq_true (isCode c) with hi | hi
  · exact h2 c (List.mem_filter.mpr ⟨hc, hi⟩)
  · simpa [hi] using h
set_option maxRecDepth 65536 in
theorem w_c0 : (Jvm.Cond.code x code maxLocals ret).before args0 about1 = true := code_word (m := ⟨1, 2⟩) (meth := k1m2) (c := k1c2) (by decide +kernel) rfl rfl rfl (by decide +kernel)
set_option maxRecDepth 65536 in
theorem w_c1 : (Jvm.Cond.code ({ cls := "com/example/porthcurno/porthcurno/tools/Figures", name := "perSecond", desc := "(JJ)J" } : Jvm.MethodName) prog_55_method_4_code (4 : Nat) (Option.some Jvm.ClassFile.FieldType.long)).before args0 about1 = true := code_word (m := ⟨2, 1⟩) (meth := k2m1) (c := k2c1) (by decide +kernel) rfl rfl rfl (by decide +kernel)
set_option maxRecDepth 65536 in
theorem w_c2 : (Jvm.Cond.code ({ cls := "java/lang/Math", name := "round", desc := "(D)J" } : Jvm.MethodName) jdk_29_method_22_code (10 : Nat) (Option.some Jvm.ClassFile.FieldType.long)).before args0 about1 = true := code_word (m := ⟨3, 1⟩) (meth := k3m1) (c := k3c1) (by decide +kernel) rfl rfl rfl (by decide +kernel)
set_option maxRecDepth 65536 in
theorem w_c3 : (Jvm.Cond.code ({ cls := "com/example/porthcurno/porthcurno/tools/FiguresPerSecondPinLaw", name := "roundedRate", desc := "(JJ)J" } : Jvm.MethodName) method_2_code (10 : Nat) (Option.some Jvm.ClassFile.FieldType.long)).before args0 about1 = true := code_word (m := ⟨1, 1⟩) (meth := k1m1) (c := k1c1) (by decide +kernel) rfl rfl rfl (by decide +kernel)
def codes1 : List Jvm.Cond := [Jvm.Cond.code x code maxLocals ret, Jvm.Cond.code ({ cls := "com/example/porthcurno/porthcurno/tools/Figures", name := "perSecond", desc := "(JJ)J" } : Jvm.MethodName) prog_55_method_4_code (4 : Nat) (Option.some Jvm.ClassFile.FieldType.long), Jvm.Cond.code ({ cls := "java/lang/Math", name := "round", desc := "(D)J" } : Jvm.MethodName) jdk_29_method_22_code (10 : Nat) (Option.some Jvm.ClassFile.FieldType.long), Jvm.Cond.code ({ cls := "com/example/porthcurno/porthcurno/tools/FiguresPerSecondPinLaw", name := "roundedRate", desc := "(JJ)J" } : Jvm.MethodName) method_2_code (10 : Nat) (Option.some Jvm.ClassFile.FieldType.long)]
set_option maxRecDepth 65536 in
theorem codes_eq : words1.filter isCode = codes1 := rfl
theorem w_codes : ∀ c ∈ words1.filter isCode, c.before args0 about1 = true := by
  rw [codes_eq]
  intro c hc
  simp only [codes1, List.mem_cons, List.not_mem_nil, or_false] at hc
  rcases hc with rfl | rfl | rfl | rfl
  · exact w_c0
  · exact w_c1
  · exact w_c2
  · exact w_c3
set_option maxRecDepth 65536 in
theorem w_t1 : words1.all (fun c => isCode c || c.before args0 about1) = true := by decide +kernel
theorem w_tables : (allAtoms (Jvm.Cond.code x code maxLocals ret :: tables_1)).before args0 about1 = true := by
  rw [allAtoms_all]
  show words1.all (fun c => c.before args0 about1) = true
  refine all_split ?_ w_codes
  rw [w_t1]
set_option maxRecDepth 65536 in
theorem w_case : (Jvm.Cond.and given_1 narrow_1).before args0 about1 = true := by decide +kernel
theorem w_applies : (headSpec (Jvm.Cond.code x code maxLocals ret :: tables_1) room_1).applies x e0.platform about1 = true :=
  (Spec.applies_iff w_frames).mpr ⟨w_running, w_runnable, w_alone, w_named, w_hears, w_ripe, w_room, w_tables⟩
theorem atStart : AtStart classFile x code maxLocals ret World_1 tables_1 room_1 Calls_1 rest_1 Pre_1 launch0 p0 e0 about1 theMethod args0 below0 :=
  ⟨lists_1, trivial, launch0.admits_env _ _ _, launch0.least_env, fairChoices_fair.cas, fairChoices_fair.clock, w_frames, w_args, w_heap, w_applies, trivial, trivial, w_case⟩
end start1
theorem witness_1 : WitnessClaimed_1 := ⟨start1.p0, start1.e0, start1.about1, start1.theMethod, start1.args0, start1.below0, start1.atStart⟩
end Jvm.Pilot.@@N@@
