import JvmDerived
import JvmDerived.Pilot.@@N@@Statement
import JvmDerived.Pilot.@@N@@Code
set_option linter.unusedVariables false
set_option linter.unusedSimpArgs false
namespace Jvm.Pilot.@@N@@
open Jvm Jvm.ClassFile Sem Op Lib Jvm.Free Jvm.Stand Jvm.LawKit Jvm.RoadKit Bundle Jvm.Pilot.@@N@@.Jvm.D
def own_bi (P : Prop) [Decidable P] : Int32 := if P then 1 else 0
theorem own_bi_t {P : Prop} [Decidable P] (h : P) : own_bi P = 1 := if_pos h
theorem own_bi_f {P : Prop} [Decidable P] (h : ¬ P) : own_bi P = 0 := if_neg h
theorem own_bi_01 (P : Prop) [Decidable P] : own_bi P = 0 ∨ own_bi P = 1 := by by_cases h : P <;> simp [own_bi, h]
theorem own_bi_eq {P Q : Prop} [Decidable P] [Decidable Q] (h : P ↔ Q) : own_bi P = own_bi Q := by by_cases q : P <;> simp [own_bi, q, ← h]
theorem own_bi_iff (P : Prop) [Decidable P] : own_bi P = 1 ↔ P := by by_cases q : P <;> simp [own_bi, q]
theorem own_bi_ne (P : Prop) [Decidable P] : own_bi P = 0 ↔ ¬ P := by by_cases q : P <;> simp [own_bi, q]
theorem own_ofNat {n : Nat} (h : n < 2147483648) : (Int32.ofNat n).toInt = (n : Int) := len_toInt h
theorem own_narZ {z : Int32} (h : z = 0 ∨ z = 1) : narrow .boolean (.int z) = .int z := by rcases h with rfl | rfl <;> rfl
def own_pl : Nat → Int32 → Nat → Int32 → List Value → Int32 × List Value
  | 0, n, ix, r, vs => ((n + (1 : Int32)), vs.set ix (.int (nar .byte (r.toInt8.toInt32))))
  | f + 1, n, ix, r, vs => if r < 128 then ((n + (1 : Int32)), vs.set ix (.int (nar .byte (r.toInt8.toInt32)))) else own_pl f (n + (1 : Int32)) (ix + 1) (XT.ushr r (7 : Int32)) (vs.set ix (.int (nar .byte ((r ||| (128 : Int32)).toInt8.toInt32))))
theorem own_pl_z {f : Nat} {n r : Int32} {ix : Nat} {vs : List Value} (h : r < 128) : own_pl f n ix r vs = ((n + (1 : Int32)), vs.set ix (.int (nar .byte (r.toInt8.toInt32)))) := by
  cases f
  · rfl
  · exact if_pos h
theorem own_pl_s {f : Nat} {n r : Int32} {ix : Nat} {vs : List Value} (h : ¬ r < 128) : own_pl (f + 1) n ix r vs = own_pl f (n + (1 : Int32)) (ix + 1) (XT.ushr r (7 : Int32)) (vs.set ix (.int (nar .byte ((r ||| (128 : Int32)).toInt8.toInt32)))) := if_neg h
def own_cnt (r : Int32) : Int32 := (((((1 : Int32) + own_bi (¬ r < 128)) + own_bi (¬ r < 16384)) + own_bi (¬ r < 2097152)) + own_bi (¬ r < 268435456))
def own_ex (i a r n fl : Int32) : Int32 := if i < a ∨ ¬ i < a + n then fl else (if (i - a) < (n - (1 : Int32)) then ((XT.ushr r ((7 : Int32) * (i - a)) &&& (127 : Int32)) ||| (128 : Int32)) else (XT.ushr r ((7 : Int32) * (i - a)) &&& (127 : Int32))).toInt8.toInt32
theorem own_ex_out {i a r n fl : Int32} (h : i < a ∨ ¬ i < a + n) : own_ex i a r n fl = fl := if_pos h
theorem own_ex_in {i a r n fl : Int32} (h : ¬ (i < a ∨ ¬ i < a + n)) : own_ex i a r n fl = (if (i - a) < (n - (1 : Int32)) then ((XT.ushr r ((7 : Int32) * (i - a)) &&& (127 : Int32)) ||| (128 : Int32)) else (XT.ushr r ((7 : Int32) * (i - a)) &&& (127 : Int32))).toInt8.toInt32 := if_neg h
theorem own_nx {a : Int32} {k : Nat} (h : ¬ a < 0 ∧ a.toInt ≤ 7) (e : a.toNatClampNeg = k) : (a + 1).toNatClampNeg = k + 1 := by
  have k1 := c_iadd a 1
  have r1 := rng32 (a + 1)
  have o1 : (1 : Int32).toInt = 1 := rfl
  have o0 : (0 : Int32).toInt = 0 := rfl
  obtain ⟨h1, h2⟩ := h
  rw [Int32.lt_iff_toInt_lt, o0] at h1
  rw [o1] at k1
  have e' : a.toInt.toNat = k := e
  show (a + 1).toInt.toNat = k + 1
  omega
theorem own_7 {a : Int32} (h : ¬ a < 0 ∧ a < 9) (hl : ¬ (a + 1) < 0 ∧ (a + 1) < 9) : ¬ a < 0 ∧ a.toInt ≤ 7 := by
  have k1 := c_iadd a 1
  have o1 : (1 : Int32).toInt = 1 := rfl
  have o9 : (9 : Int32).toInt = 9 := rfl
  have o0 : (0 : Int32).toInt = 0 := rfl
  obtain ⟨h1, h2⟩ := h
  refine ⟨h1, ?_⟩
  rw [Int32.lt_iff_toInt_lt] at h1 h2
  obtain ⟨h3, h4⟩ := hl
  rw [Int32.lt_iff_toInt_lt] at h3 h4
  rw [o1] at k1
  omega
theorem own_at {a : Int32} (h : ¬ a < 0 ∧ a.toInt ≤ 3) : (¬ a < 0 ∧ a < 9) ∧ (¬ (a + 1) < 0 ∧ (a + 1) < 9) ∧ (¬ (a + 1 + 1) < 0 ∧ (a + 1 + 1) < 9) ∧ (¬ (a + 1 + 1 + 1) < 0 ∧ (a + 1 + 1 + 1) < 9) ∧ (¬ (a + 1 + 1 + 1 + 1) < 0 ∧ (a + 1 + 1 + 1 + 1) < 9) := by
  have h0 := h.1
  have h3 := h.2
  have o0 : (0 : Int32).toInt = 0 := rfl
  have o1 : (1 : Int32).toInt = 1 := rfl
  have o9 : (9 : Int32).toInt = 9 := rfl
  have k1 := c_iadd a 1
  have k2 := c_iadd (a + 1) 1
  have k3 := c_iadd (a + 1 + 1) 1
  have k4 := c_iadd (a + 1 + 1 + 1) 1
  have r1 := rng32 (a + 1)
  have r2 := rng32 (a + 1 + 1)
  have r3 := rng32 (a + 1 + 1 + 1)
  have r4 := rng32 (a + 1 + 1 + 1 + 1)
  simp only [Int32.lt_iff_toInt_lt, o0, o1, o9] at *
  omega
theorem own_nat {a : Int32} (h : ¬ a < 0 ∧ a < 9) : a.toNatClampNeg < 9 := by
  obtain ⟨h1, h2⟩ := h
  have o9 : (9 : Int32).toInt = 9 := rfl
  rw [Int32.lt_iff_toInt_lt, o9] at h2
  show a.toInt.toNat < 9
  omega
theorem own_sh (r : Int32) : (XT.ushr r (7 : Int32)).toInt = (r.toInt % 4294967296) / 128 := c_iushr r 7 7 (by decide) (by decide)
theorem own_lt128 (r : Int32) : r < 128 ↔ r.toInt < 128 := by rw [Int32.lt_iff_toInt_lt]; exact Iff.rfl
theorem own_or8 (r : Int32) : (r ||| (128 : Int32)).toInt8 = ((r &&& (127 : Int32)) ||| (128 : Int32)).toInt8 := by
  apply Int8.toBitVec_inj.mp
  show (r.toBitVec ||| 128#32).signExtend 8 = ((r.toBitVec &&& 127#32) ||| 128#32).signExtend 8
  rw [BitVec.signExtend_eq_setWidth_of_le _ (by decide), BitVec.signExtend_eq_setWidth_of_le _ (by decide)]
  apply BitVec.eq_of_getLsbD_eq
  intro i hi
  rcases (by omega : i = 0 ∨ i = 1 ∨ i = 2 ∨ i = 3 ∨ i = 4 ∨ i = 5 ∨ i = 6 ∨ i = 7) with rfl | rfl | rfl | rfl | rfl | rfl | rfl | rfl <;> simp
theorem own_nb (x : Int32) : nar .byte (x.toInt8.toInt32) = x.toInt8.toInt32 := by
  show x.toInt8.toInt32.toInt8.toInt32 = x.toInt8.toInt32
  simp
theorem own_and7 {r : Int32} (h0 : 0 ≤ r.toInt) (h : r.toInt < 128) : r &&& (127 : Int32) = r := by
  apply Int32.toInt_inj.mp
  rw [c_mask r 127 7 (by decide) (by decide)]
  omega
theorem own_s0 (r : Int32) : XT.ushr r ((7 : Int32) * (0 : Int32)) = r := by
  apply Int32.toBitVec_inj.mp
  show r.toBitVec >>> ((((7 : Int32) * (0 : Int32)) &&& 31).toBitVec % 32#32) = r.toBitVec
  rw [show ((((7 : Int32) * (0 : Int32)) &&& 31).toBitVec % 32#32) = 0#32 by decide]
  simp
theorem own_s1 (r : Int32) : XT.ushr r ((7 : Int32) * (1 : Int32)) = (XT.ushr r (7 : Int32)) := by
  apply Int32.toInt_inj.mp
  have a : (XT.ushr r ((7 : Int32) * (1 : Int32))).toInt = (r.toInt % 4294967296) / (2 ^ 7 : Nat) := c_iushr r _ 7 (by decide) (by decide)
  have b0 := own_sh r
  rw [a]
  omega
theorem own_s2 (r : Int32) : XT.ushr r ((7 : Int32) * (2 : Int32)) = (XT.ushr (XT.ushr r (7 : Int32)) (7 : Int32)) := by
  apply Int32.toInt_inj.mp
  have a : (XT.ushr r ((7 : Int32) * (2 : Int32))).toInt = (r.toInt % 4294967296) / (2 ^ 14 : Nat) := c_iushr r _ 14 (by decide) (by decide)
  have b0 := own_sh r
  have b1 := own_sh (XT.ushr r (7 : Int32))
  rw [a]
  omega
theorem own_s3 (r : Int32) : XT.ushr r ((7 : Int32) * (3 : Int32)) = (XT.ushr (XT.ushr (XT.ushr r (7 : Int32)) (7 : Int32)) (7 : Int32)) := by
  apply Int32.toInt_inj.mp
  have a : (XT.ushr r ((7 : Int32) * (3 : Int32))).toInt = (r.toInt % 4294967296) / (2 ^ 21 : Nat) := c_iushr r _ 21 (by decide) (by decide)
  have b0 := own_sh r
  have b1 := own_sh (XT.ushr r (7 : Int32))
  have b2 := own_sh (XT.ushr (XT.ushr r (7 : Int32)) (7 : Int32))
  rw [a]
  omega
theorem own_s4 (r : Int32) : XT.ushr r ((7 : Int32) * (4 : Int32)) = (XT.ushr (XT.ushr (XT.ushr (XT.ushr r (7 : Int32)) (7 : Int32)) (7 : Int32)) (7 : Int32)) := by
  apply Int32.toInt_inj.mp
  have a : (XT.ushr r ((7 : Int32) * (4 : Int32))).toInt = (r.toInt % 4294967296) / (2 ^ 28 : Nat) := c_iushr r _ 28 (by decide) (by decide)
  have b0 := own_sh r
  have b1 := own_sh (XT.ushr r (7 : Int32))
  have b2 := own_sh (XT.ushr (XT.ushr r (7 : Int32)) (7 : Int32))
  have b3 := own_sh (XT.ushr (XT.ushr (XT.ushr r (7 : Int32)) (7 : Int32)) (7 : Int32))
  rw [a]
  omega
set_option maxHeartbeats 4000000 in
theorem own_law0 {r fl : Int32} (hr : ¬ r < 0) (hf : nar .byte fl = fl) : (own_pl 4 (0 : Int32) 0 r [(.int (nar .byte fl)), (.int (nar .byte fl)), (.int (nar .byte fl)), (.int (nar .byte fl)), (.int (nar .byte fl)), (.int (nar .byte fl)), (.int (nar .byte fl)), (.int (nar .byte fl)), (.int (nar .byte fl))]).1 = (0 : Int32) + own_cnt r ∧ (own_pl 4 (0 : Int32) 0 r [(.int (nar .byte fl)), (.int (nar .byte fl)), (.int (nar .byte fl)), (.int (nar .byte fl)), (.int (nar .byte fl)), (.int (nar .byte fl)), (.int (nar .byte fl)), (.int (nar .byte fl)), (.int (nar .byte fl))]).2.getD 0 (.int (0 : Int32)) = .int (own_ex (0 : Int32) (0 : Int32) r (own_cnt r) fl) ∧ (own_pl 4 (0 : Int32) 0 r [(.int (nar .byte fl)), (.int (nar .byte fl)), (.int (nar .byte fl)), (.int (nar .byte fl)), (.int (nar .byte fl)), (.int (nar .byte fl)), (.int (nar .byte fl)), (.int (nar .byte fl)), (.int (nar .byte fl))]).2.getD 1 (.int (0 : Int32)) = .int (own_ex (1 : Int32) (0 : Int32) r (own_cnt r) fl) ∧ (own_pl 4 (0 : Int32) 0 r [(.int (nar .byte fl)), (.int (nar .byte fl)), (.int (nar .byte fl)), (.int (nar .byte fl)), (.int (nar .byte fl)), (.int (nar .byte fl)), (.int (nar .byte fl)), (.int (nar .byte fl)), (.int (nar .byte fl))]).2.getD 2 (.int (0 : Int32)) = .int (own_ex (2 : Int32) (0 : Int32) r (own_cnt r) fl) ∧ (own_pl 4 (0 : Int32) 0 r [(.int (nar .byte fl)), (.int (nar .byte fl)), (.int (nar .byte fl)), (.int (nar .byte fl)), (.int (nar .byte fl)), (.int (nar .byte fl)), (.int (nar .byte fl)), (.int (nar .byte fl)), (.int (nar .byte fl))]).2.getD 3 (.int (0 : Int32)) = .int (own_ex (3 : Int32) (0 : Int32) r (own_cnt r) fl) ∧ (own_pl 4 (0 : Int32) 0 r [(.int (nar .byte fl)), (.int (nar .byte fl)), (.int (nar .byte fl)), (.int (nar .byte fl)), (.int (nar .byte fl)), (.int (nar .byte fl)), (.int (nar .byte fl)), (.int (nar .byte fl)), (.int (nar .byte fl))]).2.getD 4 (.int (0 : Int32)) = .int (own_ex (4 : Int32) (0 : Int32) r (own_cnt r) fl) ∧ (own_pl 4 (0 : Int32) 0 r [(.int (nar .byte fl)), (.int (nar .byte fl)), (.int (nar .byte fl)), (.int (nar .byte fl)), (.int (nar .byte fl)), (.int (nar .byte fl)), (.int (nar .byte fl)), (.int (nar .byte fl)), (.int (nar .byte fl))]).2.getD 5 (.int (0 : Int32)) = .int (own_ex (5 : Int32) (0 : Int32) r (own_cnt r) fl) ∧ (own_pl 4 (0 : Int32) 0 r [(.int (nar .byte fl)), (.int (nar .byte fl)), (.int (nar .byte fl)), (.int (nar .byte fl)), (.int (nar .byte fl)), (.int (nar .byte fl)), (.int (nar .byte fl)), (.int (nar .byte fl)), (.int (nar .byte fl))]).2.getD 6 (.int (0 : Int32)) = .int (own_ex (6 : Int32) (0 : Int32) r (own_cnt r) fl) ∧ (own_pl 4 (0 : Int32) 0 r [(.int (nar .byte fl)), (.int (nar .byte fl)), (.int (nar .byte fl)), (.int (nar .byte fl)), (.int (nar .byte fl)), (.int (nar .byte fl)), (.int (nar .byte fl)), (.int (nar .byte fl)), (.int (nar .byte fl))]).2.getD 7 (.int (0 : Int32)) = .int (own_ex (7 : Int32) (0 : Int32) r (own_cnt r) fl) ∧ (own_pl 4 (0 : Int32) 0 r [(.int (nar .byte fl)), (.int (nar .byte fl)), (.int (nar .byte fl)), (.int (nar .byte fl)), (.int (nar .byte fl)), (.int (nar .byte fl)), (.int (nar .byte fl)), (.int (nar .byte fl)), (.int (nar .byte fl))]).2.getD 8 (.int (0 : Int32)) = .int (own_ex (8 : Int32) (0 : Int32) r (own_cnt r) fl) := by
  have h0 : 0 ≤ r.toInt := by rw [Int32.lt_iff_toInt_lt] at hr; have : (0 : Int32).toInt = 0 := rfl; omega
  have rg := rng32 r
  have b0 := own_sh r
  have b1 := own_sh (XT.ushr r (7 : Int32))
  have b2 := own_sh (XT.ushr (XT.ushr r (7 : Int32)) (7 : Int32))
  have b3 := own_sh (XT.ushr (XT.ushr (XT.ushr r (7 : Int32)) (7 : Int32)) (7 : Int32))
  have t0 : r < 128 ↔ r.toInt < 128 := by rw [Int32.lt_iff_toInt_lt]; exact Iff.rfl
  have t1 : r < 16384 ↔ r.toInt < 16384 := by rw [Int32.lt_iff_toInt_lt]; exact Iff.rfl
  have t2 : r < 2097152 ↔ r.toInt < 2097152 := by rw [Int32.lt_iff_toInt_lt]; exact Iff.rfl
  have t3 : r < 268435456 ↔ r.toInt < 268435456 := by rw [Int32.lt_iff_toInt_lt]; exact Iff.rfl
  by_cases c1 : r.toInt < 128
  · skip
    have z0 : r < 128 := by rw [own_lt128]; omega
    have zn : 0 ≤ r.toInt := by omega
    have zl : r.toInt < 128 := by omega
    have hc : own_cnt r = (1 : Int32) := by
      unfold own_cnt
      rw [own_bi_f (show ¬ ¬ r < 128 by rw [t0]; omega)]
      rw [own_bi_f (show ¬ ¬ r < 16384 by rw [t1]; omega)]
      rw [own_bi_f (show ¬ ¬ r < 2097152 by rw [t2]; omega)]
      rw [own_bi_f (show ¬ ¬ r < 268435456 by rw [t3]; omega)]
      all_goals decide
    rw [hc, own_pl_z z0]
    refine ⟨show ((0 : Int32) + (1 : Int32)) = (0 : Int32) + (1 : Int32) by decide, ?_, ?_, ?_, ?_, ?_, ?_, ?_, ?_, ?_⟩
    · rw [own_ex_in (by decide), show ((0 : Int32) - (0 : Int32)) = (0 : Int32) by decide, if_neg (by decide), own_s0]
      rw [own_and7 zn zl]; exact congrArg Value.int (own_nb _)
    · rw [own_ex_out (by decide)]; exact congrArg Value.int hf
    · rw [own_ex_out (by decide)]; exact congrArg Value.int hf
    · rw [own_ex_out (by decide)]; exact congrArg Value.int hf
    · rw [own_ex_out (by decide)]; exact congrArg Value.int hf
    · rw [own_ex_out (by decide)]; exact congrArg Value.int hf
    · rw [own_ex_out (by decide)]; exact congrArg Value.int hf
    · rw [own_ex_out (by decide)]; exact congrArg Value.int hf
    · rw [own_ex_out (by decide)]; exact congrArg Value.int hf
  · skip
    by_cases c2 : r.toInt < 16384
    · skip
      have n0 : ¬ r < 128 := by rw [own_lt128]; omega
      have z1 : (XT.ushr r (7 : Int32)) < 128 := by rw [own_lt128]; omega
      have zn : 0 ≤ (XT.ushr r (7 : Int32)).toInt := by omega
      have zl : (XT.ushr r (7 : Int32)).toInt < 128 := by omega
      have hc : own_cnt r = (2 : Int32) := by
        unfold own_cnt
        rw [own_bi_t (show ¬ r < 128 by rw [t0]; omega)]
        rw [own_bi_f (show ¬ ¬ r < 16384 by rw [t1]; omega)]
        rw [own_bi_f (show ¬ ¬ r < 2097152 by rw [t2]; omega)]
        rw [own_bi_f (show ¬ ¬ r < 268435456 by rw [t3]; omega)]
        all_goals decide
      rw [hc, own_pl_s n0, own_pl_z z1]
      refine ⟨show (((0 : Int32) + (1 : Int32)) + (1 : Int32)) = (0 : Int32) + (2 : Int32) by decide, ?_, ?_, ?_, ?_, ?_, ?_, ?_, ?_, ?_⟩
      · rw [own_ex_in (by decide), show ((0 : Int32) - (0 : Int32)) = (0 : Int32) by decide, if_pos (by decide), own_s0]
        exact congrArg Value.int ((own_nb _).trans (congrArg Int8.toInt32 (own_or8 _)))
      · rw [own_ex_in (by decide), show ((1 : Int32) - (0 : Int32)) = (1 : Int32) by decide, if_neg (by decide), own_s1]
        rw [own_and7 zn zl]; exact congrArg Value.int (own_nb _)
      · rw [own_ex_out (by decide)]; exact congrArg Value.int hf
      · rw [own_ex_out (by decide)]; exact congrArg Value.int hf
      · rw [own_ex_out (by decide)]; exact congrArg Value.int hf
      · rw [own_ex_out (by decide)]; exact congrArg Value.int hf
      · rw [own_ex_out (by decide)]; exact congrArg Value.int hf
      · rw [own_ex_out (by decide)]; exact congrArg Value.int hf
      · rw [own_ex_out (by decide)]; exact congrArg Value.int hf
    · skip
      by_cases c3 : r.toInt < 2097152
      · skip
        have n0 : ¬ r < 128 := by rw [own_lt128]; omega
        have n1 : ¬ (XT.ushr r (7 : Int32)) < 128 := by rw [own_lt128]; omega
        have z2 : (XT.ushr (XT.ushr r (7 : Int32)) (7 : Int32)) < 128 := by rw [own_lt128]; omega
        have zn : 0 ≤ (XT.ushr (XT.ushr r (7 : Int32)) (7 : Int32)).toInt := by omega
        have zl : (XT.ushr (XT.ushr r (7 : Int32)) (7 : Int32)).toInt < 128 := by omega
        have hc : own_cnt r = (3 : Int32) := by
          unfold own_cnt
          rw [own_bi_t (show ¬ r < 128 by rw [t0]; omega)]
          rw [own_bi_t (show ¬ r < 16384 by rw [t1]; omega)]
          rw [own_bi_f (show ¬ ¬ r < 2097152 by rw [t2]; omega)]
          rw [own_bi_f (show ¬ ¬ r < 268435456 by rw [t3]; omega)]
          all_goals decide
        rw [hc, own_pl_s n0, own_pl_s n1, own_pl_z z2]
        refine ⟨show ((((0 : Int32) + (1 : Int32)) + (1 : Int32)) + (1 : Int32)) = (0 : Int32) + (3 : Int32) by decide, ?_, ?_, ?_, ?_, ?_, ?_, ?_, ?_, ?_⟩
        · rw [own_ex_in (by decide), show ((0 : Int32) - (0 : Int32)) = (0 : Int32) by decide, if_pos (by decide), own_s0]
          exact congrArg Value.int ((own_nb _).trans (congrArg Int8.toInt32 (own_or8 _)))
        · rw [own_ex_in (by decide), show ((1 : Int32) - (0 : Int32)) = (1 : Int32) by decide, if_pos (by decide), own_s1]
          exact congrArg Value.int ((own_nb _).trans (congrArg Int8.toInt32 (own_or8 _)))
        · rw [own_ex_in (by decide), show ((2 : Int32) - (0 : Int32)) = (2 : Int32) by decide, if_neg (by decide), own_s2]
          rw [own_and7 zn zl]; exact congrArg Value.int (own_nb _)
        · rw [own_ex_out (by decide)]; exact congrArg Value.int hf
        · rw [own_ex_out (by decide)]; exact congrArg Value.int hf
        · rw [own_ex_out (by decide)]; exact congrArg Value.int hf
        · rw [own_ex_out (by decide)]; exact congrArg Value.int hf
        · rw [own_ex_out (by decide)]; exact congrArg Value.int hf
        · rw [own_ex_out (by decide)]; exact congrArg Value.int hf
      · skip
        by_cases c4 : r.toInt < 268435456
        · skip
          have n0 : ¬ r < 128 := by rw [own_lt128]; omega
          have n1 : ¬ (XT.ushr r (7 : Int32)) < 128 := by rw [own_lt128]; omega
          have n2 : ¬ (XT.ushr (XT.ushr r (7 : Int32)) (7 : Int32)) < 128 := by rw [own_lt128]; omega
          have z3 : (XT.ushr (XT.ushr (XT.ushr r (7 : Int32)) (7 : Int32)) (7 : Int32)) < 128 := by rw [own_lt128]; omega
          have zn : 0 ≤ (XT.ushr (XT.ushr (XT.ushr r (7 : Int32)) (7 : Int32)) (7 : Int32)).toInt := by omega
          have zl : (XT.ushr (XT.ushr (XT.ushr r (7 : Int32)) (7 : Int32)) (7 : Int32)).toInt < 128 := by omega
          have hc : own_cnt r = (4 : Int32) := by
            unfold own_cnt
            rw [own_bi_t (show ¬ r < 128 by rw [t0]; omega)]
            rw [own_bi_t (show ¬ r < 16384 by rw [t1]; omega)]
            rw [own_bi_t (show ¬ r < 2097152 by rw [t2]; omega)]
            rw [own_bi_f (show ¬ ¬ r < 268435456 by rw [t3]; omega)]
            all_goals decide
          rw [hc, own_pl_s n0, own_pl_s n1, own_pl_s n2, own_pl_z z3]
          refine ⟨show (((((0 : Int32) + (1 : Int32)) + (1 : Int32)) + (1 : Int32)) + (1 : Int32)) = (0 : Int32) + (4 : Int32) by decide, ?_, ?_, ?_, ?_, ?_, ?_, ?_, ?_, ?_⟩
          · rw [own_ex_in (by decide), show ((0 : Int32) - (0 : Int32)) = (0 : Int32) by decide, if_pos (by decide), own_s0]
            exact congrArg Value.int ((own_nb _).trans (congrArg Int8.toInt32 (own_or8 _)))
          · rw [own_ex_in (by decide), show ((1 : Int32) - (0 : Int32)) = (1 : Int32) by decide, if_pos (by decide), own_s1]
            exact congrArg Value.int ((own_nb _).trans (congrArg Int8.toInt32 (own_or8 _)))
          · rw [own_ex_in (by decide), show ((2 : Int32) - (0 : Int32)) = (2 : Int32) by decide, if_pos (by decide), own_s2]
            exact congrArg Value.int ((own_nb _).trans (congrArg Int8.toInt32 (own_or8 _)))
          · rw [own_ex_in (by decide), show ((3 : Int32) - (0 : Int32)) = (3 : Int32) by decide, if_neg (by decide), own_s3]
            rw [own_and7 zn zl]; exact congrArg Value.int (own_nb _)
          · rw [own_ex_out (by decide)]; exact congrArg Value.int hf
          · rw [own_ex_out (by decide)]; exact congrArg Value.int hf
          · rw [own_ex_out (by decide)]; exact congrArg Value.int hf
          · rw [own_ex_out (by decide)]; exact congrArg Value.int hf
          · rw [own_ex_out (by decide)]; exact congrArg Value.int hf
        · skip
          have n0 : ¬ r < 128 := by rw [own_lt128]; omega
          have n1 : ¬ (XT.ushr r (7 : Int32)) < 128 := by rw [own_lt128]; omega
          have n2 : ¬ (XT.ushr (XT.ushr r (7 : Int32)) (7 : Int32)) < 128 := by rw [own_lt128]; omega
          have n3 : ¬ (XT.ushr (XT.ushr (XT.ushr r (7 : Int32)) (7 : Int32)) (7 : Int32)) < 128 := by rw [own_lt128]; omega
          have z4 : (XT.ushr (XT.ushr (XT.ushr (XT.ushr r (7 : Int32)) (7 : Int32)) (7 : Int32)) (7 : Int32)) < 128 := by rw [own_lt128]; omega
          have zn : 0 ≤ (XT.ushr (XT.ushr (XT.ushr (XT.ushr r (7 : Int32)) (7 : Int32)) (7 : Int32)) (7 : Int32)).toInt := by omega
          have zl : (XT.ushr (XT.ushr (XT.ushr (XT.ushr r (7 : Int32)) (7 : Int32)) (7 : Int32)) (7 : Int32)).toInt < 128 := by omega
          have hc : own_cnt r = (5 : Int32) := by
            unfold own_cnt
            rw [own_bi_t (show ¬ r < 128 by rw [t0]; omega)]
            rw [own_bi_t (show ¬ r < 16384 by rw [t1]; omega)]
            rw [own_bi_t (show ¬ r < 2097152 by rw [t2]; omega)]
            rw [own_bi_t (show ¬ r < 268435456 by rw [t3]; omega)]
            all_goals decide
          rw [hc, own_pl_s n0, own_pl_s n1, own_pl_s n2, own_pl_s n3, own_pl_z z4]
          refine ⟨show ((((((0 : Int32) + (1 : Int32)) + (1 : Int32)) + (1 : Int32)) + (1 : Int32)) + (1 : Int32)) = (0 : Int32) + (5 : Int32) by decide, ?_, ?_, ?_, ?_, ?_, ?_, ?_, ?_, ?_⟩
          · rw [own_ex_in (by decide), show ((0 : Int32) - (0 : Int32)) = (0 : Int32) by decide, if_pos (by decide), own_s0]
            exact congrArg Value.int ((own_nb _).trans (congrArg Int8.toInt32 (own_or8 _)))
          · rw [own_ex_in (by decide), show ((1 : Int32) - (0 : Int32)) = (1 : Int32) by decide, if_pos (by decide), own_s1]
            exact congrArg Value.int ((own_nb _).trans (congrArg Int8.toInt32 (own_or8 _)))
          · rw [own_ex_in (by decide), show ((2 : Int32) - (0 : Int32)) = (2 : Int32) by decide, if_pos (by decide), own_s2]
            exact congrArg Value.int ((own_nb _).trans (congrArg Int8.toInt32 (own_or8 _)))
          · rw [own_ex_in (by decide), show ((3 : Int32) - (0 : Int32)) = (3 : Int32) by decide, if_pos (by decide), own_s3]
            exact congrArg Value.int ((own_nb _).trans (congrArg Int8.toInt32 (own_or8 _)))
          · rw [own_ex_in (by decide), show ((4 : Int32) - (0 : Int32)) = (4 : Int32) by decide, if_neg (by decide), own_s4]
            rw [own_and7 zn zl]; exact congrArg Value.int (own_nb _)
          · rw [own_ex_out (by decide)]; exact congrArg Value.int hf
          · rw [own_ex_out (by decide)]; exact congrArg Value.int hf
          · rw [own_ex_out (by decide)]; exact congrArg Value.int hf
          · rw [own_ex_out (by decide)]; exact congrArg Value.int hf
set_option maxHeartbeats 4000000 in
theorem own_law1 {r fl : Int32} (hr : ¬ r < 0) (hf : nar .byte fl = fl) : (own_pl 4 (1 : Int32) 1 r [(.int (nar .byte fl)), (.int (nar .byte fl)), (.int (nar .byte fl)), (.int (nar .byte fl)), (.int (nar .byte fl)), (.int (nar .byte fl)), (.int (nar .byte fl)), (.int (nar .byte fl)), (.int (nar .byte fl))]).1 = (1 : Int32) + own_cnt r ∧ (own_pl 4 (1 : Int32) 1 r [(.int (nar .byte fl)), (.int (nar .byte fl)), (.int (nar .byte fl)), (.int (nar .byte fl)), (.int (nar .byte fl)), (.int (nar .byte fl)), (.int (nar .byte fl)), (.int (nar .byte fl)), (.int (nar .byte fl))]).2.getD 0 (.int (0 : Int32)) = .int (own_ex (0 : Int32) (1 : Int32) r (own_cnt r) fl) ∧ (own_pl 4 (1 : Int32) 1 r [(.int (nar .byte fl)), (.int (nar .byte fl)), (.int (nar .byte fl)), (.int (nar .byte fl)), (.int (nar .byte fl)), (.int (nar .byte fl)), (.int (nar .byte fl)), (.int (nar .byte fl)), (.int (nar .byte fl))]).2.getD 1 (.int (0 : Int32)) = .int (own_ex (1 : Int32) (1 : Int32) r (own_cnt r) fl) ∧ (own_pl 4 (1 : Int32) 1 r [(.int (nar .byte fl)), (.int (nar .byte fl)), (.int (nar .byte fl)), (.int (nar .byte fl)), (.int (nar .byte fl)), (.int (nar .byte fl)), (.int (nar .byte fl)), (.int (nar .byte fl)), (.int (nar .byte fl))]).2.getD 2 (.int (0 : Int32)) = .int (own_ex (2 : Int32) (1 : Int32) r (own_cnt r) fl) ∧ (own_pl 4 (1 : Int32) 1 r [(.int (nar .byte fl)), (.int (nar .byte fl)), (.int (nar .byte fl)), (.int (nar .byte fl)), (.int (nar .byte fl)), (.int (nar .byte fl)), (.int (nar .byte fl)), (.int (nar .byte fl)), (.int (nar .byte fl))]).2.getD 3 (.int (0 : Int32)) = .int (own_ex (3 : Int32) (1 : Int32) r (own_cnt r) fl) ∧ (own_pl 4 (1 : Int32) 1 r [(.int (nar .byte fl)), (.int (nar .byte fl)), (.int (nar .byte fl)), (.int (nar .byte fl)), (.int (nar .byte fl)), (.int (nar .byte fl)), (.int (nar .byte fl)), (.int (nar .byte fl)), (.int (nar .byte fl))]).2.getD 4 (.int (0 : Int32)) = .int (own_ex (4 : Int32) (1 : Int32) r (own_cnt r) fl) ∧ (own_pl 4 (1 : Int32) 1 r [(.int (nar .byte fl)), (.int (nar .byte fl)), (.int (nar .byte fl)), (.int (nar .byte fl)), (.int (nar .byte fl)), (.int (nar .byte fl)), (.int (nar .byte fl)), (.int (nar .byte fl)), (.int (nar .byte fl))]).2.getD 5 (.int (0 : Int32)) = .int (own_ex (5 : Int32) (1 : Int32) r (own_cnt r) fl) ∧ (own_pl 4 (1 : Int32) 1 r [(.int (nar .byte fl)), (.int (nar .byte fl)), (.int (nar .byte fl)), (.int (nar .byte fl)), (.int (nar .byte fl)), (.int (nar .byte fl)), (.int (nar .byte fl)), (.int (nar .byte fl)), (.int (nar .byte fl))]).2.getD 6 (.int (0 : Int32)) = .int (own_ex (6 : Int32) (1 : Int32) r (own_cnt r) fl) ∧ (own_pl 4 (1 : Int32) 1 r [(.int (nar .byte fl)), (.int (nar .byte fl)), (.int (nar .byte fl)), (.int (nar .byte fl)), (.int (nar .byte fl)), (.int (nar .byte fl)), (.int (nar .byte fl)), (.int (nar .byte fl)), (.int (nar .byte fl))]).2.getD 7 (.int (0 : Int32)) = .int (own_ex (7 : Int32) (1 : Int32) r (own_cnt r) fl) ∧ (own_pl 4 (1 : Int32) 1 r [(.int (nar .byte fl)), (.int (nar .byte fl)), (.int (nar .byte fl)), (.int (nar .byte fl)), (.int (nar .byte fl)), (.int (nar .byte fl)), (.int (nar .byte fl)), (.int (nar .byte fl)), (.int (nar .byte fl))]).2.getD 8 (.int (0 : Int32)) = .int (own_ex (8 : Int32) (1 : Int32) r (own_cnt r) fl) := by
  have h0 : 0 ≤ r.toInt := by rw [Int32.lt_iff_toInt_lt] at hr; have : (0 : Int32).toInt = 0 := rfl; omega
  have rg := rng32 r
  have b0 := own_sh r
  have b1 := own_sh (XT.ushr r (7 : Int32))
  have b2 := own_sh (XT.ushr (XT.ushr r (7 : Int32)) (7 : Int32))
  have b3 := own_sh (XT.ushr (XT.ushr (XT.ushr r (7 : Int32)) (7 : Int32)) (7 : Int32))
  have t0 : r < 128 ↔ r.toInt < 128 := by rw [Int32.lt_iff_toInt_lt]; exact Iff.rfl
  have t1 : r < 16384 ↔ r.toInt < 16384 := by rw [Int32.lt_iff_toInt_lt]; exact Iff.rfl
  have t2 : r < 2097152 ↔ r.toInt < 2097152 := by rw [Int32.lt_iff_toInt_lt]; exact Iff.rfl
  have t3 : r < 268435456 ↔ r.toInt < 268435456 := by rw [Int32.lt_iff_toInt_lt]; exact Iff.rfl
  by_cases c1 : r.toInt < 128
  · skip
    have z0 : r < 128 := by rw [own_lt128]; omega
    have zn : 0 ≤ r.toInt := by omega
    have zl : r.toInt < 128 := by omega
    have hc : own_cnt r = (1 : Int32) := by
      unfold own_cnt
      rw [own_bi_f (show ¬ ¬ r < 128 by rw [t0]; omega)]
      rw [own_bi_f (show ¬ ¬ r < 16384 by rw [t1]; omega)]
      rw [own_bi_f (show ¬ ¬ r < 2097152 by rw [t2]; omega)]
      rw [own_bi_f (show ¬ ¬ r < 268435456 by rw [t3]; omega)]
      all_goals decide
    rw [hc, own_pl_z z0]
    refine ⟨show ((1 : Int32) + (1 : Int32)) = (1 : Int32) + (1 : Int32) by decide, ?_, ?_, ?_, ?_, ?_, ?_, ?_, ?_, ?_⟩
    · rw [own_ex_out (by decide)]; exact congrArg Value.int hf
    · rw [own_ex_in (by decide), show ((1 : Int32) - (1 : Int32)) = (0 : Int32) by decide, if_neg (by decide), own_s0]
      rw [own_and7 zn zl]; exact congrArg Value.int (own_nb _)
    · rw [own_ex_out (by decide)]; exact congrArg Value.int hf
    · rw [own_ex_out (by decide)]; exact congrArg Value.int hf
    · rw [own_ex_out (by decide)]; exact congrArg Value.int hf
    · rw [own_ex_out (by decide)]; exact congrArg Value.int hf
    · rw [own_ex_out (by decide)]; exact congrArg Value.int hf
    · rw [own_ex_out (by decide)]; exact congrArg Value.int hf
    · rw [own_ex_out (by decide)]; exact congrArg Value.int hf
  · skip
    by_cases c2 : r.toInt < 16384
    · skip
      have n0 : ¬ r < 128 := by rw [own_lt128]; omega
      have z1 : (XT.ushr r (7 : Int32)) < 128 := by rw [own_lt128]; omega
      have zn : 0 ≤ (XT.ushr r (7 : Int32)).toInt := by omega
      have zl : (XT.ushr r (7 : Int32)).toInt < 128 := by omega
      have hc : own_cnt r = (2 : Int32) := by
        unfold own_cnt
        rw [own_bi_t (show ¬ r < 128 by rw [t0]; omega)]
        rw [own_bi_f (show ¬ ¬ r < 16384 by rw [t1]; omega)]
        rw [own_bi_f (show ¬ ¬ r < 2097152 by rw [t2]; omega)]
        rw [own_bi_f (show ¬ ¬ r < 268435456 by rw [t3]; omega)]
        all_goals decide
      rw [hc, own_pl_s n0, own_pl_z z1]
      refine ⟨show (((1 : Int32) + (1 : Int32)) + (1 : Int32)) = (1 : Int32) + (2 : Int32) by decide, ?_, ?_, ?_, ?_, ?_, ?_, ?_, ?_, ?_⟩
      · rw [own_ex_out (by decide)]; exact congrArg Value.int hf
      · rw [own_ex_in (by decide), show ((1 : Int32) - (1 : Int32)) = (0 : Int32) by decide, if_pos (by decide), own_s0]
        exact congrArg Value.int ((own_nb _).trans (congrArg Int8.toInt32 (own_or8 _)))
      · rw [own_ex_in (by decide), show ((2 : Int32) - (1 : Int32)) = (1 : Int32) by decide, if_neg (by decide), own_s1]
        rw [own_and7 zn zl]; exact congrArg Value.int (own_nb _)
      · rw [own_ex_out (by decide)]; exact congrArg Value.int hf
      · rw [own_ex_out (by decide)]; exact congrArg Value.int hf
      · rw [own_ex_out (by decide)]; exact congrArg Value.int hf
      · rw [own_ex_out (by decide)]; exact congrArg Value.int hf
      · rw [own_ex_out (by decide)]; exact congrArg Value.int hf
      · rw [own_ex_out (by decide)]; exact congrArg Value.int hf
    · skip
      by_cases c3 : r.toInt < 2097152
      · skip
        have n0 : ¬ r < 128 := by rw [own_lt128]; omega
        have n1 : ¬ (XT.ushr r (7 : Int32)) < 128 := by rw [own_lt128]; omega
        have z2 : (XT.ushr (XT.ushr r (7 : Int32)) (7 : Int32)) < 128 := by rw [own_lt128]; omega
        have zn : 0 ≤ (XT.ushr (XT.ushr r (7 : Int32)) (7 : Int32)).toInt := by omega
        have zl : (XT.ushr (XT.ushr r (7 : Int32)) (7 : Int32)).toInt < 128 := by omega
        have hc : own_cnt r = (3 : Int32) := by
          unfold own_cnt
          rw [own_bi_t (show ¬ r < 128 by rw [t0]; omega)]
          rw [own_bi_t (show ¬ r < 16384 by rw [t1]; omega)]
          rw [own_bi_f (show ¬ ¬ r < 2097152 by rw [t2]; omega)]
          rw [own_bi_f (show ¬ ¬ r < 268435456 by rw [t3]; omega)]
          all_goals decide
        rw [hc, own_pl_s n0, own_pl_s n1, own_pl_z z2]
        refine ⟨show ((((1 : Int32) + (1 : Int32)) + (1 : Int32)) + (1 : Int32)) = (1 : Int32) + (3 : Int32) by decide, ?_, ?_, ?_, ?_, ?_, ?_, ?_, ?_, ?_⟩
        · rw [own_ex_out (by decide)]; exact congrArg Value.int hf
        · rw [own_ex_in (by decide), show ((1 : Int32) - (1 : Int32)) = (0 : Int32) by decide, if_pos (by decide), own_s0]
          exact congrArg Value.int ((own_nb _).trans (congrArg Int8.toInt32 (own_or8 _)))
        · rw [own_ex_in (by decide), show ((2 : Int32) - (1 : Int32)) = (1 : Int32) by decide, if_pos (by decide), own_s1]
          exact congrArg Value.int ((own_nb _).trans (congrArg Int8.toInt32 (own_or8 _)))
        · rw [own_ex_in (by decide), show ((3 : Int32) - (1 : Int32)) = (2 : Int32) by decide, if_neg (by decide), own_s2]
          rw [own_and7 zn zl]; exact congrArg Value.int (own_nb _)
        · rw [own_ex_out (by decide)]; exact congrArg Value.int hf
        · rw [own_ex_out (by decide)]; exact congrArg Value.int hf
        · rw [own_ex_out (by decide)]; exact congrArg Value.int hf
        · rw [own_ex_out (by decide)]; exact congrArg Value.int hf
        · rw [own_ex_out (by decide)]; exact congrArg Value.int hf
      · skip
        by_cases c4 : r.toInt < 268435456
        · skip
          have n0 : ¬ r < 128 := by rw [own_lt128]; omega
          have n1 : ¬ (XT.ushr r (7 : Int32)) < 128 := by rw [own_lt128]; omega
          have n2 : ¬ (XT.ushr (XT.ushr r (7 : Int32)) (7 : Int32)) < 128 := by rw [own_lt128]; omega
          have z3 : (XT.ushr (XT.ushr (XT.ushr r (7 : Int32)) (7 : Int32)) (7 : Int32)) < 128 := by rw [own_lt128]; omega
          have zn : 0 ≤ (XT.ushr (XT.ushr (XT.ushr r (7 : Int32)) (7 : Int32)) (7 : Int32)).toInt := by omega
          have zl : (XT.ushr (XT.ushr (XT.ushr r (7 : Int32)) (7 : Int32)) (7 : Int32)).toInt < 128 := by omega
          have hc : own_cnt r = (4 : Int32) := by
            unfold own_cnt
            rw [own_bi_t (show ¬ r < 128 by rw [t0]; omega)]
            rw [own_bi_t (show ¬ r < 16384 by rw [t1]; omega)]
            rw [own_bi_t (show ¬ r < 2097152 by rw [t2]; omega)]
            rw [own_bi_f (show ¬ ¬ r < 268435456 by rw [t3]; omega)]
            all_goals decide
          rw [hc, own_pl_s n0, own_pl_s n1, own_pl_s n2, own_pl_z z3]
          refine ⟨show (((((1 : Int32) + (1 : Int32)) + (1 : Int32)) + (1 : Int32)) + (1 : Int32)) = (1 : Int32) + (4 : Int32) by decide, ?_, ?_, ?_, ?_, ?_, ?_, ?_, ?_, ?_⟩
          · rw [own_ex_out (by decide)]; exact congrArg Value.int hf
          · rw [own_ex_in (by decide), show ((1 : Int32) - (1 : Int32)) = (0 : Int32) by decide, if_pos (by decide), own_s0]
            exact congrArg Value.int ((own_nb _).trans (congrArg Int8.toInt32 (own_or8 _)))
          · rw [own_ex_in (by decide), show ((2 : Int32) - (1 : Int32)) = (1 : Int32) by decide, if_pos (by decide), own_s1]
            exact congrArg Value.int ((own_nb _).trans (congrArg Int8.toInt32 (own_or8 _)))
          · rw [own_ex_in (by decide), show ((3 : Int32) - (1 : Int32)) = (2 : Int32) by decide, if_pos (by decide), own_s2]
            exact congrArg Value.int ((own_nb _).trans (congrArg Int8.toInt32 (own_or8 _)))
          · rw [own_ex_in (by decide), show ((4 : Int32) - (1 : Int32)) = (3 : Int32) by decide, if_neg (by decide), own_s3]
            rw [own_and7 zn zl]; exact congrArg Value.int (own_nb _)
          · rw [own_ex_out (by decide)]; exact congrArg Value.int hf
          · rw [own_ex_out (by decide)]; exact congrArg Value.int hf
          · rw [own_ex_out (by decide)]; exact congrArg Value.int hf
          · rw [own_ex_out (by decide)]; exact congrArg Value.int hf
        · skip
          have n0 : ¬ r < 128 := by rw [own_lt128]; omega
          have n1 : ¬ (XT.ushr r (7 : Int32)) < 128 := by rw [own_lt128]; omega
          have n2 : ¬ (XT.ushr (XT.ushr r (7 : Int32)) (7 : Int32)) < 128 := by rw [own_lt128]; omega
          have n3 : ¬ (XT.ushr (XT.ushr (XT.ushr r (7 : Int32)) (7 : Int32)) (7 : Int32)) < 128 := by rw [own_lt128]; omega
          have z4 : (XT.ushr (XT.ushr (XT.ushr (XT.ushr r (7 : Int32)) (7 : Int32)) (7 : Int32)) (7 : Int32)) < 128 := by rw [own_lt128]; omega
          have zn : 0 ≤ (XT.ushr (XT.ushr (XT.ushr (XT.ushr r (7 : Int32)) (7 : Int32)) (7 : Int32)) (7 : Int32)).toInt := by omega
          have zl : (XT.ushr (XT.ushr (XT.ushr (XT.ushr r (7 : Int32)) (7 : Int32)) (7 : Int32)) (7 : Int32)).toInt < 128 := by omega
          have hc : own_cnt r = (5 : Int32) := by
            unfold own_cnt
            rw [own_bi_t (show ¬ r < 128 by rw [t0]; omega)]
            rw [own_bi_t (show ¬ r < 16384 by rw [t1]; omega)]
            rw [own_bi_t (show ¬ r < 2097152 by rw [t2]; omega)]
            rw [own_bi_t (show ¬ r < 268435456 by rw [t3]; omega)]
            all_goals decide
          rw [hc, own_pl_s n0, own_pl_s n1, own_pl_s n2, own_pl_s n3, own_pl_z z4]
          refine ⟨show ((((((1 : Int32) + (1 : Int32)) + (1 : Int32)) + (1 : Int32)) + (1 : Int32)) + (1 : Int32)) = (1 : Int32) + (5 : Int32) by decide, ?_, ?_, ?_, ?_, ?_, ?_, ?_, ?_, ?_⟩
          · rw [own_ex_out (by decide)]; exact congrArg Value.int hf
          · rw [own_ex_in (by decide), show ((1 : Int32) - (1 : Int32)) = (0 : Int32) by decide, if_pos (by decide), own_s0]
            exact congrArg Value.int ((own_nb _).trans (congrArg Int8.toInt32 (own_or8 _)))
          · rw [own_ex_in (by decide), show ((2 : Int32) - (1 : Int32)) = (1 : Int32) by decide, if_pos (by decide), own_s1]
            exact congrArg Value.int ((own_nb _).trans (congrArg Int8.toInt32 (own_or8 _)))
          · rw [own_ex_in (by decide), show ((3 : Int32) - (1 : Int32)) = (2 : Int32) by decide, if_pos (by decide), own_s2]
            exact congrArg Value.int ((own_nb _).trans (congrArg Int8.toInt32 (own_or8 _)))
          · rw [own_ex_in (by decide), show ((4 : Int32) - (1 : Int32)) = (3 : Int32) by decide, if_pos (by decide), own_s3]
            exact congrArg Value.int ((own_nb _).trans (congrArg Int8.toInt32 (own_or8 _)))
          · rw [own_ex_in (by decide), show ((5 : Int32) - (1 : Int32)) = (4 : Int32) by decide, if_neg (by decide), own_s4]
            rw [own_and7 zn zl]; exact congrArg Value.int (own_nb _)
          · rw [own_ex_out (by decide)]; exact congrArg Value.int hf
          · rw [own_ex_out (by decide)]; exact congrArg Value.int hf
          · rw [own_ex_out (by decide)]; exact congrArg Value.int hf
set_option maxHeartbeats 4000000 in
theorem own_law2 {r fl : Int32} (hr : ¬ r < 0) (hf : nar .byte fl = fl) : (own_pl 4 (2 : Int32) 2 r [(.int (nar .byte fl)), (.int (nar .byte fl)), (.int (nar .byte fl)), (.int (nar .byte fl)), (.int (nar .byte fl)), (.int (nar .byte fl)), (.int (nar .byte fl)), (.int (nar .byte fl)), (.int (nar .byte fl))]).1 = (2 : Int32) + own_cnt r ∧ (own_pl 4 (2 : Int32) 2 r [(.int (nar .byte fl)), (.int (nar .byte fl)), (.int (nar .byte fl)), (.int (nar .byte fl)), (.int (nar .byte fl)), (.int (nar .byte fl)), (.int (nar .byte fl)), (.int (nar .byte fl)), (.int (nar .byte fl))]).2.getD 0 (.int (0 : Int32)) = .int (own_ex (0 : Int32) (2 : Int32) r (own_cnt r) fl) ∧ (own_pl 4 (2 : Int32) 2 r [(.int (nar .byte fl)), (.int (nar .byte fl)), (.int (nar .byte fl)), (.int (nar .byte fl)), (.int (nar .byte fl)), (.int (nar .byte fl)), (.int (nar .byte fl)), (.int (nar .byte fl)), (.int (nar .byte fl))]).2.getD 1 (.int (0 : Int32)) = .int (own_ex (1 : Int32) (2 : Int32) r (own_cnt r) fl) ∧ (own_pl 4 (2 : Int32) 2 r [(.int (nar .byte fl)), (.int (nar .byte fl)), (.int (nar .byte fl)), (.int (nar .byte fl)), (.int (nar .byte fl)), (.int (nar .byte fl)), (.int (nar .byte fl)), (.int (nar .byte fl)), (.int (nar .byte fl))]).2.getD 2 (.int (0 : Int32)) = .int (own_ex (2 : Int32) (2 : Int32) r (own_cnt r) fl) ∧ (own_pl 4 (2 : Int32) 2 r [(.int (nar .byte fl)), (.int (nar .byte fl)), (.int (nar .byte fl)), (.int (nar .byte fl)), (.int (nar .byte fl)), (.int (nar .byte fl)), (.int (nar .byte fl)), (.int (nar .byte fl)), (.int (nar .byte fl))]).2.getD 3 (.int (0 : Int32)) = .int (own_ex (3 : Int32) (2 : Int32) r (own_cnt r) fl) ∧ (own_pl 4 (2 : Int32) 2 r [(.int (nar .byte fl)), (.int (nar .byte fl)), (.int (nar .byte fl)), (.int (nar .byte fl)), (.int (nar .byte fl)), (.int (nar .byte fl)), (.int (nar .byte fl)), (.int (nar .byte fl)), (.int (nar .byte fl))]).2.getD 4 (.int (0 : Int32)) = .int (own_ex (4 : Int32) (2 : Int32) r (own_cnt r) fl) ∧ (own_pl 4 (2 : Int32) 2 r [(.int (nar .byte fl)), (.int (nar .byte fl)), (.int (nar .byte fl)), (.int (nar .byte fl)), (.int (nar .byte fl)), (.int (nar .byte fl)), (.int (nar .byte fl)), (.int (nar .byte fl)), (.int (nar .byte fl))]).2.getD 5 (.int (0 : Int32)) = .int (own_ex (5 : Int32) (2 : Int32) r (own_cnt r) fl) ∧ (own_pl 4 (2 : Int32) 2 r [(.int (nar .byte fl)), (.int (nar .byte fl)), (.int (nar .byte fl)), (.int (nar .byte fl)), (.int (nar .byte fl)), (.int (nar .byte fl)), (.int (nar .byte fl)), (.int (nar .byte fl)), (.int (nar .byte fl))]).2.getD 6 (.int (0 : Int32)) = .int (own_ex (6 : Int32) (2 : Int32) r (own_cnt r) fl) ∧ (own_pl 4 (2 : Int32) 2 r [(.int (nar .byte fl)), (.int (nar .byte fl)), (.int (nar .byte fl)), (.int (nar .byte fl)), (.int (nar .byte fl)), (.int (nar .byte fl)), (.int (nar .byte fl)), (.int (nar .byte fl)), (.int (nar .byte fl))]).2.getD 7 (.int (0 : Int32)) = .int (own_ex (7 : Int32) (2 : Int32) r (own_cnt r) fl) ∧ (own_pl 4 (2 : Int32) 2 r [(.int (nar .byte fl)), (.int (nar .byte fl)), (.int (nar .byte fl)), (.int (nar .byte fl)), (.int (nar .byte fl)), (.int (nar .byte fl)), (.int (nar .byte fl)), (.int (nar .byte fl)), (.int (nar .byte fl))]).2.getD 8 (.int (0 : Int32)) = .int (own_ex (8 : Int32) (2 : Int32) r (own_cnt r) fl) := by
  have h0 : 0 ≤ r.toInt := by rw [Int32.lt_iff_toInt_lt] at hr; have : (0 : Int32).toInt = 0 := rfl; omega
  have rg := rng32 r
  have b0 := own_sh r
  have b1 := own_sh (XT.ushr r (7 : Int32))
  have b2 := own_sh (XT.ushr (XT.ushr r (7 : Int32)) (7 : Int32))
  have b3 := own_sh (XT.ushr (XT.ushr (XT.ushr r (7 : Int32)) (7 : Int32)) (7 : Int32))
  have t0 : r < 128 ↔ r.toInt < 128 := by rw [Int32.lt_iff_toInt_lt]; exact Iff.rfl
  have t1 : r < 16384 ↔ r.toInt < 16384 := by rw [Int32.lt_iff_toInt_lt]; exact Iff.rfl
  have t2 : r < 2097152 ↔ r.toInt < 2097152 := by rw [Int32.lt_iff_toInt_lt]; exact Iff.rfl
  have t3 : r < 268435456 ↔ r.toInt < 268435456 := by rw [Int32.lt_iff_toInt_lt]; exact Iff.rfl
  by_cases c1 : r.toInt < 128
  · skip
    have z0 : r < 128 := by rw [own_lt128]; omega
    have zn : 0 ≤ r.toInt := by omega
    have zl : r.toInt < 128 := by omega
    have hc : own_cnt r = (1 : Int32) := by
      unfold own_cnt
      rw [own_bi_f (show ¬ ¬ r < 128 by rw [t0]; omega)]
      rw [own_bi_f (show ¬ ¬ r < 16384 by rw [t1]; omega)]
      rw [own_bi_f (show ¬ ¬ r < 2097152 by rw [t2]; omega)]
      rw [own_bi_f (show ¬ ¬ r < 268435456 by rw [t3]; omega)]
      all_goals decide
    rw [hc, own_pl_z z0]
    refine ⟨show ((2 : Int32) + (1 : Int32)) = (2 : Int32) + (1 : Int32) by decide, ?_, ?_, ?_, ?_, ?_, ?_, ?_, ?_, ?_⟩
    · rw [own_ex_out (by decide)]; exact congrArg Value.int hf
    · rw [own_ex_out (by decide)]; exact congrArg Value.int hf
    · rw [own_ex_in (by decide), show ((2 : Int32) - (2 : Int32)) = (0 : Int32) by decide, if_neg (by decide), own_s0]
      rw [own_and7 zn zl]; exact congrArg Value.int (own_nb _)
    · rw [own_ex_out (by decide)]; exact congrArg Value.int hf
    · rw [own_ex_out (by decide)]; exact congrArg Value.int hf
    · rw [own_ex_out (by decide)]; exact congrArg Value.int hf
    · rw [own_ex_out (by decide)]; exact congrArg Value.int hf
    · rw [own_ex_out (by decide)]; exact congrArg Value.int hf
    · rw [own_ex_out (by decide)]; exact congrArg Value.int hf
  · skip
    by_cases c2 : r.toInt < 16384
    · skip
      have n0 : ¬ r < 128 := by rw [own_lt128]; omega
      have z1 : (XT.ushr r (7 : Int32)) < 128 := by rw [own_lt128]; omega
      have zn : 0 ≤ (XT.ushr r (7 : Int32)).toInt := by omega
      have zl : (XT.ushr r (7 : Int32)).toInt < 128 := by omega
      have hc : own_cnt r = (2 : Int32) := by
        unfold own_cnt
        rw [own_bi_t (show ¬ r < 128 by rw [t0]; omega)]
        rw [own_bi_f (show ¬ ¬ r < 16384 by rw [t1]; omega)]
        rw [own_bi_f (show ¬ ¬ r < 2097152 by rw [t2]; omega)]
        rw [own_bi_f (show ¬ ¬ r < 268435456 by rw [t3]; omega)]
        all_goals decide
      rw [hc, own_pl_s n0, own_pl_z z1]
      refine ⟨show (((2 : Int32) + (1 : Int32)) + (1 : Int32)) = (2 : Int32) + (2 : Int32) by decide, ?_, ?_, ?_, ?_, ?_, ?_, ?_, ?_, ?_⟩
      · rw [own_ex_out (by decide)]; exact congrArg Value.int hf
      · rw [own_ex_out (by decide)]; exact congrArg Value.int hf
      · rw [own_ex_in (by decide), show ((2 : Int32) - (2 : Int32)) = (0 : Int32) by decide, if_pos (by decide), own_s0]
        exact congrArg Value.int ((own_nb _).trans (congrArg Int8.toInt32 (own_or8 _)))
      · rw [own_ex_in (by decide), show ((3 : Int32) - (2 : Int32)) = (1 : Int32) by decide, if_neg (by decide), own_s1]
        rw [own_and7 zn zl]; exact congrArg Value.int (own_nb _)
      · rw [own_ex_out (by decide)]; exact congrArg Value.int hf
      · rw [own_ex_out (by decide)]; exact congrArg Value.int hf
      · rw [own_ex_out (by decide)]; exact congrArg Value.int hf
      · rw [own_ex_out (by decide)]; exact congrArg Value.int hf
      · rw [own_ex_out (by decide)]; exact congrArg Value.int hf
    · skip
      by_cases c3 : r.toInt < 2097152
      · skip
        have n0 : ¬ r < 128 := by rw [own_lt128]; omega
        have n1 : ¬ (XT.ushr r (7 : Int32)) < 128 := by rw [own_lt128]; omega
        have z2 : (XT.ushr (XT.ushr r (7 : Int32)) (7 : Int32)) < 128 := by rw [own_lt128]; omega
        have zn : 0 ≤ (XT.ushr (XT.ushr r (7 : Int32)) (7 : Int32)).toInt := by omega
        have zl : (XT.ushr (XT.ushr r (7 : Int32)) (7 : Int32)).toInt < 128 := by omega
        have hc : own_cnt r = (3 : Int32) := by
          unfold own_cnt
          rw [own_bi_t (show ¬ r < 128 by rw [t0]; omega)]
          rw [own_bi_t (show ¬ r < 16384 by rw [t1]; omega)]
          rw [own_bi_f (show ¬ ¬ r < 2097152 by rw [t2]; omega)]
          rw [own_bi_f (show ¬ ¬ r < 268435456 by rw [t3]; omega)]
          all_goals decide
        rw [hc, own_pl_s n0, own_pl_s n1, own_pl_z z2]
        refine ⟨show ((((2 : Int32) + (1 : Int32)) + (1 : Int32)) + (1 : Int32)) = (2 : Int32) + (3 : Int32) by decide, ?_, ?_, ?_, ?_, ?_, ?_, ?_, ?_, ?_⟩
        · rw [own_ex_out (by decide)]; exact congrArg Value.int hf
        · rw [own_ex_out (by decide)]; exact congrArg Value.int hf
        · rw [own_ex_in (by decide), show ((2 : Int32) - (2 : Int32)) = (0 : Int32) by decide, if_pos (by decide), own_s0]
          exact congrArg Value.int ((own_nb _).trans (congrArg Int8.toInt32 (own_or8 _)))
        · rw [own_ex_in (by decide), show ((3 : Int32) - (2 : Int32)) = (1 : Int32) by decide, if_pos (by decide), own_s1]
          exact congrArg Value.int ((own_nb _).trans (congrArg Int8.toInt32 (own_or8 _)))
        · rw [own_ex_in (by decide), show ((4 : Int32) - (2 : Int32)) = (2 : Int32) by decide, if_neg (by decide), own_s2]
          rw [own_and7 zn zl]; exact congrArg Value.int (own_nb _)
        · rw [own_ex_out (by decide)]; exact congrArg Value.int hf
        · rw [own_ex_out (by decide)]; exact congrArg Value.int hf
        · rw [own_ex_out (by decide)]; exact congrArg Value.int hf
        · rw [own_ex_out (by decide)]; exact congrArg Value.int hf
      · skip
        by_cases c4 : r.toInt < 268435456
        · skip
          have n0 : ¬ r < 128 := by rw [own_lt128]; omega
          have n1 : ¬ (XT.ushr r (7 : Int32)) < 128 := by rw [own_lt128]; omega
          have n2 : ¬ (XT.ushr (XT.ushr r (7 : Int32)) (7 : Int32)) < 128 := by rw [own_lt128]; omega
          have z3 : (XT.ushr (XT.ushr (XT.ushr r (7 : Int32)) (7 : Int32)) (7 : Int32)) < 128 := by rw [own_lt128]; omega
          have zn : 0 ≤ (XT.ushr (XT.ushr (XT.ushr r (7 : Int32)) (7 : Int32)) (7 : Int32)).toInt := by omega
          have zl : (XT.ushr (XT.ushr (XT.ushr r (7 : Int32)) (7 : Int32)) (7 : Int32)).toInt < 128 := by omega
          have hc : own_cnt r = (4 : Int32) := by
            unfold own_cnt
            rw [own_bi_t (show ¬ r < 128 by rw [t0]; omega)]
            rw [own_bi_t (show ¬ r < 16384 by rw [t1]; omega)]
            rw [own_bi_t (show ¬ r < 2097152 by rw [t2]; omega)]
            rw [own_bi_f (show ¬ ¬ r < 268435456 by rw [t3]; omega)]
            all_goals decide
          rw [hc, own_pl_s n0, own_pl_s n1, own_pl_s n2, own_pl_z z3]
          refine ⟨show (((((2 : Int32) + (1 : Int32)) + (1 : Int32)) + (1 : Int32)) + (1 : Int32)) = (2 : Int32) + (4 : Int32) by decide, ?_, ?_, ?_, ?_, ?_, ?_, ?_, ?_, ?_⟩
          · rw [own_ex_out (by decide)]; exact congrArg Value.int hf
          · rw [own_ex_out (by decide)]; exact congrArg Value.int hf
          · rw [own_ex_in (by decide), show ((2 : Int32) - (2 : Int32)) = (0 : Int32) by decide, if_pos (by decide), own_s0]
            exact congrArg Value.int ((own_nb _).trans (congrArg Int8.toInt32 (own_or8 _)))
          · rw [own_ex_in (by decide), show ((3 : Int32) - (2 : Int32)) = (1 : Int32) by decide, if_pos (by decide), own_s1]
            exact congrArg Value.int ((own_nb _).trans (congrArg Int8.toInt32 (own_or8 _)))
          · rw [own_ex_in (by decide), show ((4 : Int32) - (2 : Int32)) = (2 : Int32) by decide, if_pos (by decide), own_s2]
            exact congrArg Value.int ((own_nb _).trans (congrArg Int8.toInt32 (own_or8 _)))
          · rw [own_ex_in (by decide), show ((5 : Int32) - (2 : Int32)) = (3 : Int32) by decide, if_neg (by decide), own_s3]
            rw [own_and7 zn zl]; exact congrArg Value.int (own_nb _)
          · rw [own_ex_out (by decide)]; exact congrArg Value.int hf
          · rw [own_ex_out (by decide)]; exact congrArg Value.int hf
          · rw [own_ex_out (by decide)]; exact congrArg Value.int hf
        · skip
          have n0 : ¬ r < 128 := by rw [own_lt128]; omega
          have n1 : ¬ (XT.ushr r (7 : Int32)) < 128 := by rw [own_lt128]; omega
          have n2 : ¬ (XT.ushr (XT.ushr r (7 : Int32)) (7 : Int32)) < 128 := by rw [own_lt128]; omega
          have n3 : ¬ (XT.ushr (XT.ushr (XT.ushr r (7 : Int32)) (7 : Int32)) (7 : Int32)) < 128 := by rw [own_lt128]; omega
          have z4 : (XT.ushr (XT.ushr (XT.ushr (XT.ushr r (7 : Int32)) (7 : Int32)) (7 : Int32)) (7 : Int32)) < 128 := by rw [own_lt128]; omega
          have zn : 0 ≤ (XT.ushr (XT.ushr (XT.ushr (XT.ushr r (7 : Int32)) (7 : Int32)) (7 : Int32)) (7 : Int32)).toInt := by omega
          have zl : (XT.ushr (XT.ushr (XT.ushr (XT.ushr r (7 : Int32)) (7 : Int32)) (7 : Int32)) (7 : Int32)).toInt < 128 := by omega
          have hc : own_cnt r = (5 : Int32) := by
            unfold own_cnt
            rw [own_bi_t (show ¬ r < 128 by rw [t0]; omega)]
            rw [own_bi_t (show ¬ r < 16384 by rw [t1]; omega)]
            rw [own_bi_t (show ¬ r < 2097152 by rw [t2]; omega)]
            rw [own_bi_t (show ¬ r < 268435456 by rw [t3]; omega)]
            all_goals decide
          rw [hc, own_pl_s n0, own_pl_s n1, own_pl_s n2, own_pl_s n3, own_pl_z z4]
          refine ⟨show ((((((2 : Int32) + (1 : Int32)) + (1 : Int32)) + (1 : Int32)) + (1 : Int32)) + (1 : Int32)) = (2 : Int32) + (5 : Int32) by decide, ?_, ?_, ?_, ?_, ?_, ?_, ?_, ?_, ?_⟩
          · rw [own_ex_out (by decide)]; exact congrArg Value.int hf
          · rw [own_ex_out (by decide)]; exact congrArg Value.int hf
          · rw [own_ex_in (by decide), show ((2 : Int32) - (2 : Int32)) = (0 : Int32) by decide, if_pos (by decide), own_s0]
            exact congrArg Value.int ((own_nb _).trans (congrArg Int8.toInt32 (own_or8 _)))
          · rw [own_ex_in (by decide), show ((3 : Int32) - (2 : Int32)) = (1 : Int32) by decide, if_pos (by decide), own_s1]
            exact congrArg Value.int ((own_nb _).trans (congrArg Int8.toInt32 (own_or8 _)))
          · rw [own_ex_in (by decide), show ((4 : Int32) - (2 : Int32)) = (2 : Int32) by decide, if_pos (by decide), own_s2]
            exact congrArg Value.int ((own_nb _).trans (congrArg Int8.toInt32 (own_or8 _)))
          · rw [own_ex_in (by decide), show ((5 : Int32) - (2 : Int32)) = (3 : Int32) by decide, if_pos (by decide), own_s3]
            exact congrArg Value.int ((own_nb _).trans (congrArg Int8.toInt32 (own_or8 _)))
          · rw [own_ex_in (by decide), show ((6 : Int32) - (2 : Int32)) = (4 : Int32) by decide, if_neg (by decide), own_s4]
            rw [own_and7 zn zl]; exact congrArg Value.int (own_nb _)
          · rw [own_ex_out (by decide)]; exact congrArg Value.int hf
          · rw [own_ex_out (by decide)]; exact congrArg Value.int hf
set_option maxHeartbeats 4000000 in
theorem own_law3 {r fl : Int32} (hr : ¬ r < 0) (hf : nar .byte fl = fl) : (own_pl 4 (3 : Int32) 3 r [(.int (nar .byte fl)), (.int (nar .byte fl)), (.int (nar .byte fl)), (.int (nar .byte fl)), (.int (nar .byte fl)), (.int (nar .byte fl)), (.int (nar .byte fl)), (.int (nar .byte fl)), (.int (nar .byte fl))]).1 = (3 : Int32) + own_cnt r ∧ (own_pl 4 (3 : Int32) 3 r [(.int (nar .byte fl)), (.int (nar .byte fl)), (.int (nar .byte fl)), (.int (nar .byte fl)), (.int (nar .byte fl)), (.int (nar .byte fl)), (.int (nar .byte fl)), (.int (nar .byte fl)), (.int (nar .byte fl))]).2.getD 0 (.int (0 : Int32)) = .int (own_ex (0 : Int32) (3 : Int32) r (own_cnt r) fl) ∧ (own_pl 4 (3 : Int32) 3 r [(.int (nar .byte fl)), (.int (nar .byte fl)), (.int (nar .byte fl)), (.int (nar .byte fl)), (.int (nar .byte fl)), (.int (nar .byte fl)), (.int (nar .byte fl)), (.int (nar .byte fl)), (.int (nar .byte fl))]).2.getD 1 (.int (0 : Int32)) = .int (own_ex (1 : Int32) (3 : Int32) r (own_cnt r) fl) ∧ (own_pl 4 (3 : Int32) 3 r [(.int (nar .byte fl)), (.int (nar .byte fl)), (.int (nar .byte fl)), (.int (nar .byte fl)), (.int (nar .byte fl)), (.int (nar .byte fl)), (.int (nar .byte fl)), (.int (nar .byte fl)), (.int (nar .byte fl))]).2.getD 2 (.int (0 : Int32)) = .int (own_ex (2 : Int32) (3 : Int32) r (own_cnt r) fl) ∧ (own_pl 4 (3 : Int32) 3 r [(.int (nar .byte fl)), (.int (nar .byte fl)), (.int (nar .byte fl)), (.int (nar .byte fl)), (.int (nar .byte fl)), (.int (nar .byte fl)), (.int (nar .byte fl)), (.int (nar .byte fl)), (.int (nar .byte fl))]).2.getD 3 (.int (0 : Int32)) = .int (own_ex (3 : Int32) (3 : Int32) r (own_cnt r) fl) ∧ (own_pl 4 (3 : Int32) 3 r [(.int (nar .byte fl)), (.int (nar .byte fl)), (.int (nar .byte fl)), (.int (nar .byte fl)), (.int (nar .byte fl)), (.int (nar .byte fl)), (.int (nar .byte fl)), (.int (nar .byte fl)), (.int (nar .byte fl))]).2.getD 4 (.int (0 : Int32)) = .int (own_ex (4 : Int32) (3 : Int32) r (own_cnt r) fl) ∧ (own_pl 4 (3 : Int32) 3 r [(.int (nar .byte fl)), (.int (nar .byte fl)), (.int (nar .byte fl)), (.int (nar .byte fl)), (.int (nar .byte fl)), (.int (nar .byte fl)), (.int (nar .byte fl)), (.int (nar .byte fl)), (.int (nar .byte fl))]).2.getD 5 (.int (0 : Int32)) = .int (own_ex (5 : Int32) (3 : Int32) r (own_cnt r) fl) ∧ (own_pl 4 (3 : Int32) 3 r [(.int (nar .byte fl)), (.int (nar .byte fl)), (.int (nar .byte fl)), (.int (nar .byte fl)), (.int (nar .byte fl)), (.int (nar .byte fl)), (.int (nar .byte fl)), (.int (nar .byte fl)), (.int (nar .byte fl))]).2.getD 6 (.int (0 : Int32)) = .int (own_ex (6 : Int32) (3 : Int32) r (own_cnt r) fl) ∧ (own_pl 4 (3 : Int32) 3 r [(.int (nar .byte fl)), (.int (nar .byte fl)), (.int (nar .byte fl)), (.int (nar .byte fl)), (.int (nar .byte fl)), (.int (nar .byte fl)), (.int (nar .byte fl)), (.int (nar .byte fl)), (.int (nar .byte fl))]).2.getD 7 (.int (0 : Int32)) = .int (own_ex (7 : Int32) (3 : Int32) r (own_cnt r) fl) ∧ (own_pl 4 (3 : Int32) 3 r [(.int (nar .byte fl)), (.int (nar .byte fl)), (.int (nar .byte fl)), (.int (nar .byte fl)), (.int (nar .byte fl)), (.int (nar .byte fl)), (.int (nar .byte fl)), (.int (nar .byte fl)), (.int (nar .byte fl))]).2.getD 8 (.int (0 : Int32)) = .int (own_ex (8 : Int32) (3 : Int32) r (own_cnt r) fl) := by
  have h0 : 0 ≤ r.toInt := by rw [Int32.lt_iff_toInt_lt] at hr; have : (0 : Int32).toInt = 0 := rfl; omega
  have rg := rng32 r
  have b0 := own_sh r
  have b1 := own_sh (XT.ushr r (7 : Int32))
  have b2 := own_sh (XT.ushr (XT.ushr r (7 : Int32)) (7 : Int32))
  have b3 := own_sh (XT.ushr (XT.ushr (XT.ushr r (7 : Int32)) (7 : Int32)) (7 : Int32))
  have t0 : r < 128 ↔ r.toInt < 128 := by rw [Int32.lt_iff_toInt_lt]; exact Iff.rfl
  have t1 : r < 16384 ↔ r.toInt < 16384 := by rw [Int32.lt_iff_toInt_lt]; exact Iff.rfl
  have t2 : r < 2097152 ↔ r.toInt < 2097152 := by rw [Int32.lt_iff_toInt_lt]; exact Iff.rfl
  have t3 : r < 268435456 ↔ r.toInt < 268435456 := by rw [Int32.lt_iff_toInt_lt]; exact Iff.rfl
  by_cases c1 : r.toInt < 128
  · skip
    have z0 : r < 128 := by rw [own_lt128]; omega
    have zn : 0 ≤ r.toInt := by omega
    have zl : r.toInt < 128 := by omega
    have hc : own_cnt r = (1 : Int32) := by
      unfold own_cnt
      rw [own_bi_f (show ¬ ¬ r < 128 by rw [t0]; omega)]
      rw [own_bi_f (show ¬ ¬ r < 16384 by rw [t1]; omega)]
      rw [own_bi_f (show ¬ ¬ r < 2097152 by rw [t2]; omega)]
      rw [own_bi_f (show ¬ ¬ r < 268435456 by rw [t3]; omega)]
      all_goals decide
    rw [hc, own_pl_z z0]
    refine ⟨show ((3 : Int32) + (1 : Int32)) = (3 : Int32) + (1 : Int32) by decide, ?_, ?_, ?_, ?_, ?_, ?_, ?_, ?_, ?_⟩
    · rw [own_ex_out (by decide)]; exact congrArg Value.int hf
    · rw [own_ex_out (by decide)]; exact congrArg Value.int hf
    · rw [own_ex_out (by decide)]; exact congrArg Value.int hf
    · rw [own_ex_in (by decide), show ((3 : Int32) - (3 : Int32)) = (0 : Int32) by decide, if_neg (by decide), own_s0]
      rw [own_and7 zn zl]; exact congrArg Value.int (own_nb _)
    · rw [own_ex_out (by decide)]; exact congrArg Value.int hf
    · rw [own_ex_out (by decide)]; exact congrArg Value.int hf
    · rw [own_ex_out (by decide)]; exact congrArg Value.int hf
    · rw [own_ex_out (by decide)]; exact congrArg Value.int hf
    · rw [own_ex_out (by decide)]; exact congrArg Value.int hf
  · skip
    by_cases c2 : r.toInt < 16384
    · skip
      have n0 : ¬ r < 128 := by rw [own_lt128]; omega
      have z1 : (XT.ushr r (7 : Int32)) < 128 := by rw [own_lt128]; omega
      have zn : 0 ≤ (XT.ushr r (7 : Int32)).toInt := by omega
      have zl : (XT.ushr r (7 : Int32)).toInt < 128 := by omega
      have hc : own_cnt r = (2 : Int32) := by
        unfold own_cnt
        rw [own_bi_t (show ¬ r < 128 by rw [t0]; omega)]
        rw [own_bi_f (show ¬ ¬ r < 16384 by rw [t1]; omega)]
        rw [own_bi_f (show ¬ ¬ r < 2097152 by rw [t2]; omega)]
        rw [own_bi_f (show ¬ ¬ r < 268435456 by rw [t3]; omega)]
        all_goals decide
      rw [hc, own_pl_s n0, own_pl_z z1]
      refine ⟨show (((3 : Int32) + (1 : Int32)) + (1 : Int32)) = (3 : Int32) + (2 : Int32) by decide, ?_, ?_, ?_, ?_, ?_, ?_, ?_, ?_, ?_⟩
      · rw [own_ex_out (by decide)]; exact congrArg Value.int hf
      · rw [own_ex_out (by decide)]; exact congrArg Value.int hf
      · rw [own_ex_out (by decide)]; exact congrArg Value.int hf
      · rw [own_ex_in (by decide), show ((3 : Int32) - (3 : Int32)) = (0 : Int32) by decide, if_pos (by decide), own_s0]
        exact congrArg Value.int ((own_nb _).trans (congrArg Int8.toInt32 (own_or8 _)))
      · rw [own_ex_in (by decide), show ((4 : Int32) - (3 : Int32)) = (1 : Int32) by decide, if_neg (by decide), own_s1]
        rw [own_and7 zn zl]; exact congrArg Value.int (own_nb _)
      · rw [own_ex_out (by decide)]; exact congrArg Value.int hf
      · rw [own_ex_out (by decide)]; exact congrArg Value.int hf
      · rw [own_ex_out (by decide)]; exact congrArg Value.int hf
      · rw [own_ex_out (by decide)]; exact congrArg Value.int hf
    · skip
      by_cases c3 : r.toInt < 2097152
      · skip
        have n0 : ¬ r < 128 := by rw [own_lt128]; omega
        have n1 : ¬ (XT.ushr r (7 : Int32)) < 128 := by rw [own_lt128]; omega
        have z2 : (XT.ushr (XT.ushr r (7 : Int32)) (7 : Int32)) < 128 := by rw [own_lt128]; omega
        have zn : 0 ≤ (XT.ushr (XT.ushr r (7 : Int32)) (7 : Int32)).toInt := by omega
        have zl : (XT.ushr (XT.ushr r (7 : Int32)) (7 : Int32)).toInt < 128 := by omega
        have hc : own_cnt r = (3 : Int32) := by
          unfold own_cnt
          rw [own_bi_t (show ¬ r < 128 by rw [t0]; omega)]
          rw [own_bi_t (show ¬ r < 16384 by rw [t1]; omega)]
          rw [own_bi_f (show ¬ ¬ r < 2097152 by rw [t2]; omega)]
          rw [own_bi_f (show ¬ ¬ r < 268435456 by rw [t3]; omega)]
          all_goals decide
        rw [hc, own_pl_s n0, own_pl_s n1, own_pl_z z2]
        refine ⟨show ((((3 : Int32) + (1 : Int32)) + (1 : Int32)) + (1 : Int32)) = (3 : Int32) + (3 : Int32) by decide, ?_, ?_, ?_, ?_, ?_, ?_, ?_, ?_, ?_⟩
        · rw [own_ex_out (by decide)]; exact congrArg Value.int hf
        · rw [own_ex_out (by decide)]; exact congrArg Value.int hf
        · rw [own_ex_out (by decide)]; exact congrArg Value.int hf
        · rw [own_ex_in (by decide), show ((3 : Int32) - (3 : Int32)) = (0 : Int32) by decide, if_pos (by decide), own_s0]
          exact congrArg Value.int ((own_nb _).trans (congrArg Int8.toInt32 (own_or8 _)))
        · rw [own_ex_in (by decide), show ((4 : Int32) - (3 : Int32)) = (1 : Int32) by decide, if_pos (by decide), own_s1]
          exact congrArg Value.int ((own_nb _).trans (congrArg Int8.toInt32 (own_or8 _)))
        · rw [own_ex_in (by decide), show ((5 : Int32) - (3 : Int32)) = (2 : Int32) by decide, if_neg (by decide), own_s2]
          rw [own_and7 zn zl]; exact congrArg Value.int (own_nb _)
        · rw [own_ex_out (by decide)]; exact congrArg Value.int hf
        · rw [own_ex_out (by decide)]; exact congrArg Value.int hf
        · rw [own_ex_out (by decide)]; exact congrArg Value.int hf
      · skip
        by_cases c4 : r.toInt < 268435456
        · skip
          have n0 : ¬ r < 128 := by rw [own_lt128]; omega
          have n1 : ¬ (XT.ushr r (7 : Int32)) < 128 := by rw [own_lt128]; omega
          have n2 : ¬ (XT.ushr (XT.ushr r (7 : Int32)) (7 : Int32)) < 128 := by rw [own_lt128]; omega
          have z3 : (XT.ushr (XT.ushr (XT.ushr r (7 : Int32)) (7 : Int32)) (7 : Int32)) < 128 := by rw [own_lt128]; omega
          have zn : 0 ≤ (XT.ushr (XT.ushr (XT.ushr r (7 : Int32)) (7 : Int32)) (7 : Int32)).toInt := by omega
          have zl : (XT.ushr (XT.ushr (XT.ushr r (7 : Int32)) (7 : Int32)) (7 : Int32)).toInt < 128 := by omega
          have hc : own_cnt r = (4 : Int32) := by
            unfold own_cnt
            rw [own_bi_t (show ¬ r < 128 by rw [t0]; omega)]
            rw [own_bi_t (show ¬ r < 16384 by rw [t1]; omega)]
            rw [own_bi_t (show ¬ r < 2097152 by rw [t2]; omega)]
            rw [own_bi_f (show ¬ ¬ r < 268435456 by rw [t3]; omega)]
            all_goals decide
          rw [hc, own_pl_s n0, own_pl_s n1, own_pl_s n2, own_pl_z z3]
          refine ⟨show (((((3 : Int32) + (1 : Int32)) + (1 : Int32)) + (1 : Int32)) + (1 : Int32)) = (3 : Int32) + (4 : Int32) by decide, ?_, ?_, ?_, ?_, ?_, ?_, ?_, ?_, ?_⟩
          · rw [own_ex_out (by decide)]; exact congrArg Value.int hf
          · rw [own_ex_out (by decide)]; exact congrArg Value.int hf
          · rw [own_ex_out (by decide)]; exact congrArg Value.int hf
          · rw [own_ex_in (by decide), show ((3 : Int32) - (3 : Int32)) = (0 : Int32) by decide, if_pos (by decide), own_s0]
            exact congrArg Value.int ((own_nb _).trans (congrArg Int8.toInt32 (own_or8 _)))
          · rw [own_ex_in (by decide), show ((4 : Int32) - (3 : Int32)) = (1 : Int32) by decide, if_pos (by decide), own_s1]
            exact congrArg Value.int ((own_nb _).trans (congrArg Int8.toInt32 (own_or8 _)))
          · rw [own_ex_in (by decide), show ((5 : Int32) - (3 : Int32)) = (2 : Int32) by decide, if_pos (by decide), own_s2]
            exact congrArg Value.int ((own_nb _).trans (congrArg Int8.toInt32 (own_or8 _)))
          · rw [own_ex_in (by decide), show ((6 : Int32) - (3 : Int32)) = (3 : Int32) by decide, if_neg (by decide), own_s3]
            rw [own_and7 zn zl]; exact congrArg Value.int (own_nb _)
          · rw [own_ex_out (by decide)]; exact congrArg Value.int hf
          · rw [own_ex_out (by decide)]; exact congrArg Value.int hf
        · skip
          have n0 : ¬ r < 128 := by rw [own_lt128]; omega
          have n1 : ¬ (XT.ushr r (7 : Int32)) < 128 := by rw [own_lt128]; omega
          have n2 : ¬ (XT.ushr (XT.ushr r (7 : Int32)) (7 : Int32)) < 128 := by rw [own_lt128]; omega
          have n3 : ¬ (XT.ushr (XT.ushr (XT.ushr r (7 : Int32)) (7 : Int32)) (7 : Int32)) < 128 := by rw [own_lt128]; omega
          have z4 : (XT.ushr (XT.ushr (XT.ushr (XT.ushr r (7 : Int32)) (7 : Int32)) (7 : Int32)) (7 : Int32)) < 128 := by rw [own_lt128]; omega
          have zn : 0 ≤ (XT.ushr (XT.ushr (XT.ushr (XT.ushr r (7 : Int32)) (7 : Int32)) (7 : Int32)) (7 : Int32)).toInt := by omega
          have zl : (XT.ushr (XT.ushr (XT.ushr (XT.ushr r (7 : Int32)) (7 : Int32)) (7 : Int32)) (7 : Int32)).toInt < 128 := by omega
          have hc : own_cnt r = (5 : Int32) := by
            unfold own_cnt
            rw [own_bi_t (show ¬ r < 128 by rw [t0]; omega)]
            rw [own_bi_t (show ¬ r < 16384 by rw [t1]; omega)]
            rw [own_bi_t (show ¬ r < 2097152 by rw [t2]; omega)]
            rw [own_bi_t (show ¬ r < 268435456 by rw [t3]; omega)]
            all_goals decide
          rw [hc, own_pl_s n0, own_pl_s n1, own_pl_s n2, own_pl_s n3, own_pl_z z4]
          refine ⟨show ((((((3 : Int32) + (1 : Int32)) + (1 : Int32)) + (1 : Int32)) + (1 : Int32)) + (1 : Int32)) = (3 : Int32) + (5 : Int32) by decide, ?_, ?_, ?_, ?_, ?_, ?_, ?_, ?_, ?_⟩
          · rw [own_ex_out (by decide)]; exact congrArg Value.int hf
          · rw [own_ex_out (by decide)]; exact congrArg Value.int hf
          · rw [own_ex_out (by decide)]; exact congrArg Value.int hf
          · rw [own_ex_in (by decide), show ((3 : Int32) - (3 : Int32)) = (0 : Int32) by decide, if_pos (by decide), own_s0]
            exact congrArg Value.int ((own_nb _).trans (congrArg Int8.toInt32 (own_or8 _)))
          · rw [own_ex_in (by decide), show ((4 : Int32) - (3 : Int32)) = (1 : Int32) by decide, if_pos (by decide), own_s1]
            exact congrArg Value.int ((own_nb _).trans (congrArg Int8.toInt32 (own_or8 _)))
          · rw [own_ex_in (by decide), show ((5 : Int32) - (3 : Int32)) = (2 : Int32) by decide, if_pos (by decide), own_s2]
            exact congrArg Value.int ((own_nb _).trans (congrArg Int8.toInt32 (own_or8 _)))
          · rw [own_ex_in (by decide), show ((6 : Int32) - (3 : Int32)) = (3 : Int32) by decide, if_pos (by decide), own_s3]
            exact congrArg Value.int ((own_nb _).trans (congrArg Int8.toInt32 (own_or8 _)))
          · rw [own_ex_in (by decide), show ((7 : Int32) - (3 : Int32)) = (4 : Int32) by decide, if_neg (by decide), own_s4]
            rw [own_and7 zn zl]; exact congrArg Value.int (own_nb _)
          · rw [own_ex_out (by decide)]; exact congrArg Value.int hf
theorem own_law {a r fl : Int32} (ha : ¬ a < 0 ∧ a.toInt ≤ 3) (hr : ¬ r < 0) (hf : nar .byte fl = fl) : (own_pl 4 a a.toNatClampNeg r [(.int (nar .byte fl)), (.int (nar .byte fl)), (.int (nar .byte fl)), (.int (nar .byte fl)), (.int (nar .byte fl)), (.int (nar .byte fl)), (.int (nar .byte fl)), (.int (nar .byte fl)), (.int (nar .byte fl))]).1 = a + own_cnt r ∧ (own_pl 4 a a.toNatClampNeg r [(.int (nar .byte fl)), (.int (nar .byte fl)), (.int (nar .byte fl)), (.int (nar .byte fl)), (.int (nar .byte fl)), (.int (nar .byte fl)), (.int (nar .byte fl)), (.int (nar .byte fl)), (.int (nar .byte fl))]).2.getD 0 (.int (0 : Int32)) = .int (own_ex (0 : Int32) a r (own_cnt r) fl) ∧ (own_pl 4 a a.toNatClampNeg r [(.int (nar .byte fl)), (.int (nar .byte fl)), (.int (nar .byte fl)), (.int (nar .byte fl)), (.int (nar .byte fl)), (.int (nar .byte fl)), (.int (nar .byte fl)), (.int (nar .byte fl)), (.int (nar .byte fl))]).2.getD 1 (.int (0 : Int32)) = .int (own_ex (1 : Int32) a r (own_cnt r) fl) ∧ (own_pl 4 a a.toNatClampNeg r [(.int (nar .byte fl)), (.int (nar .byte fl)), (.int (nar .byte fl)), (.int (nar .byte fl)), (.int (nar .byte fl)), (.int (nar .byte fl)), (.int (nar .byte fl)), (.int (nar .byte fl)), (.int (nar .byte fl))]).2.getD 2 (.int (0 : Int32)) = .int (own_ex (2 : Int32) a r (own_cnt r) fl) ∧ (own_pl 4 a a.toNatClampNeg r [(.int (nar .byte fl)), (.int (nar .byte fl)), (.int (nar .byte fl)), (.int (nar .byte fl)), (.int (nar .byte fl)), (.int (nar .byte fl)), (.int (nar .byte fl)), (.int (nar .byte fl)), (.int (nar .byte fl))]).2.getD 3 (.int (0 : Int32)) = .int (own_ex (3 : Int32) a r (own_cnt r) fl) ∧ (own_pl 4 a a.toNatClampNeg r [(.int (nar .byte fl)), (.int (nar .byte fl)), (.int (nar .byte fl)), (.int (nar .byte fl)), (.int (nar .byte fl)), (.int (nar .byte fl)), (.int (nar .byte fl)), (.int (nar .byte fl)), (.int (nar .byte fl))]).2.getD 4 (.int (0 : Int32)) = .int (own_ex (4 : Int32) a r (own_cnt r) fl) ∧ (own_pl 4 a a.toNatClampNeg r [(.int (nar .byte fl)), (.int (nar .byte fl)), (.int (nar .byte fl)), (.int (nar .byte fl)), (.int (nar .byte fl)), (.int (nar .byte fl)), (.int (nar .byte fl)), (.int (nar .byte fl)), (.int (nar .byte fl))]).2.getD 5 (.int (0 : Int32)) = .int (own_ex (5 : Int32) a r (own_cnt r) fl) ∧ (own_pl 4 a a.toNatClampNeg r [(.int (nar .byte fl)), (.int (nar .byte fl)), (.int (nar .byte fl)), (.int (nar .byte fl)), (.int (nar .byte fl)), (.int (nar .byte fl)), (.int (nar .byte fl)), (.int (nar .byte fl)), (.int (nar .byte fl))]).2.getD 6 (.int (0 : Int32)) = .int (own_ex (6 : Int32) a r (own_cnt r) fl) ∧ (own_pl 4 a a.toNatClampNeg r [(.int (nar .byte fl)), (.int (nar .byte fl)), (.int (nar .byte fl)), (.int (nar .byte fl)), (.int (nar .byte fl)), (.int (nar .byte fl)), (.int (nar .byte fl)), (.int (nar .byte fl)), (.int (nar .byte fl))]).2.getD 7 (.int (0 : Int32)) = .int (own_ex (7 : Int32) a r (own_cnt r) fl) ∧ (own_pl 4 a a.toNatClampNeg r [(.int (nar .byte fl)), (.int (nar .byte fl)), (.int (nar .byte fl)), (.int (nar .byte fl)), (.int (nar .byte fl)), (.int (nar .byte fl)), (.int (nar .byte fl)), (.int (nar .byte fl)), (.int (nar .byte fl))]).2.getD 8 (.int (0 : Int32)) = .int (own_ex (8 : Int32) a r (own_cnt r) fl) := by
  have a4 : a = 0 ∨ a = 1 ∨ a = 2 ∨ a = 3 := by
    obtain ⟨h1, h2⟩ := ha
    rw [Int32.lt_iff_toInt_lt] at h1
    have : (0 : Int32).toInt = 0 := rfl
    simp only [← Int32.toInt_inj]
    show a.toInt = 0 ∨ a.toInt = 1 ∨ a.toInt = 2 ∨ a.toInt = 3
    omega
  rcases a4 with rfl | rfl | rfl | rfl
  · exact own_law0 hr hf
  · exact own_law1 hr hf
  · exact own_law2 hr hf
  · exact own_law3 hr hf
theorem own_ln {x k l : Int32} (h : l = XT.ushr (x &&& (2147483647 : Int32)) (k &&& (31 : Int32))) : ¬ l < 0 := by
  have h1 := c_mask x 2147483647 31 (by decide) (by decide)
  have h2 := c_mask k 31 5 (by decide) (by decide)
  generalize (x &&& (2147483647 : Int32)) = y at *
  by_cases hz : (k &&& (31 : Int32)).toBitVec.toNat % 32 = 0
  · have e : XT.ushr y (k &&& (31 : Int32)) = y := by
      apply Int32.toBitVec_inj.mp
      show y.toBitVec >>> (((k &&& (31 : Int32)) &&& 31).toBitVec % 32#32) = y.toBitVec
      have q : (((k &&& (31 : Int32)) &&& 31).toBitVec % 32#32) = 0#32 := by
        apply BitVec.eq_of_toNat_eq
        have e1 : ((k &&& (31 : Int32)) &&& 31) = (k &&& (31 : Int32)) := by rw [Int32.and_assoc]; rfl
        rw [e1, BitVec.toNat_umod]
        exact hz
      rw [q]; simp
    rw [h, e, Int32.lt_iff_toInt_lt]
    show ¬ _ < (0 : Int)
    omega
  · have e : (XT.ushr y (k &&& (31 : Int32))).toInt = (y.toInt % 4294967296) / (2 ^ ((k &&& (31 : Int32)).toBitVec.toNat % 32) : Nat) := c_iushr y _ _ rfl (by omega)
    rw [h, Int32.lt_iff_toInt_lt, e]
    show ¬ _ < (0 : Int)
    have : 0 ≤ (y.toInt % 4294967296) / ((2 ^ ((k &&& (31 : Int32)).toBitVec.toNat % 32) : Nat) : Int) := Int.ediv_nonneg (by omega) (by first | exact Int.natCast_nonneg _ | exact Int.ofNat_nonneg _)
    omega
theorem own_ap {x a : Int32} (h : a = x &&& (3 : Int32)) : ¬ a < 0 ∧ a.toInt ≤ 3 := by
  have h1 := c_mask x 3 2 (by decide) (by decide)
  rw [← h] at h1
  refine ⟨?_, by omega⟩
  rw [Int32.lt_iff_toInt_lt]
  show ¬ _ < (0 : Int)
  omega
theorem pn_1 : plainName "com/example/sluice/sluice/state/SnapshotOutput" = true := by first | (simp [plainName, overriddenIn]; done) | decide +kernel
theorem d1_0 : decode prog_193_method_19_code 0 = .ok (.iload_n 1, 1) := by decide +kernel
theorem d1_1 : decode prog_193_method_19_code 1 = .ok (.istore_n 3, 1) := by decide +kernel
theorem d1_2 : decode prog_193_method_19_code 2 = .ok (.iload_n 2, 1) := by decide +kernel
theorem d1_3 : decode prog_193_method_19_code 3 = .ok (.istore 4, 2) := by decide +kernel
theorem d1_5 : decode prog_193_method_19_code 5 = .ok (.iload 4, 2) := by decide +kernel
theorem d1_7 : decode prog_193_method_19_code 7 = .ok (.sipush 128, 3) := by decide +kernel
theorem d1_10 : decode prog_193_method_19_code 10 = .ok (.if_icmp .lt 26, 3) := by decide +kernel
theorem d1_13 : decode prog_193_method_19_code 13 = .ok (.aload_n 0, 1) := by decide +kernel
theorem d1_14 : decode prog_193_method_19_code 14 = .ok (.iload_n 3, 1) := by decide +kernel
theorem d1_15 : decode prog_193_method_19_code 15 = .ok (.iinc 3 1, 3) := by decide +kernel
theorem d1_18 : decode prog_193_method_19_code 18 = .ok (.iload 4, 2) := by decide +kernel
theorem d1_20 : decode prog_193_method_19_code 20 = .ok (.sipush 128, 3) := by decide +kernel
theorem d1_23 : decode prog_193_method_19_code 23 = .ok (.ior, 1) := by decide +kernel
theorem d1_24 : decode prog_193_method_19_code 24 = .ok (.i2b, 1) := by decide +kernel
theorem d1_25 : decode prog_193_method_19_code 25 = .ok (.bastore, 1) := by decide +kernel
theorem d1_26 : decode prog_193_method_19_code 26 = .ok (.iload 4, 2) := by decide +kernel
theorem d1_28 : decode prog_193_method_19_code 28 = .ok (.bipush 7, 2) := by decide +kernel
theorem d1_30 : decode prog_193_method_19_code 30 = .ok (.iushr, 1) := by decide +kernel
theorem d1_31 : decode prog_193_method_19_code 31 = .ok (.istore 4, 2) := by decide +kernel
theorem d1_33 : decode prog_193_method_19_code 33 = .ok (.goto (-28), 3) := by decide +kernel
theorem d1_36 : decode prog_193_method_19_code 36 = .ok (.aload_n 0, 1) := by decide +kernel
theorem d1_37 : decode prog_193_method_19_code 37 = .ok (.iload_n 3, 1) := by decide +kernel
theorem d1_38 : decode prog_193_method_19_code 38 = .ok (.iinc 3 1, 3) := by decide +kernel
theorem d1_41 : decode prog_193_method_19_code 41 = .ok (.iload 4, 2) := by decide +kernel
theorem d1_43 : decode prog_193_method_19_code 43 = .ok (.i2b, 1) := by decide +kernel
theorem d1_44 : decode prog_193_method_19_code 44 = .ok (.bastore, 1) := by decide +kernel
theorem d1_45 : decode prog_193_method_19_code 45 = .ok (.iload_n 3, 1) := by decide +kernel
theorem d1_46 : decode prog_193_method_19_code 46 = .ok (.ireturn, 1) := by decide +kernel
theorem ef_1 (m : MethodId) (a1 : Addr) (p1 : Int32) (p2 : Int32) : entryFrame m #[(.ref a1), (.int p1), (.int p2)] 5 = mkF m 0 #[.val (.ref a1), .val (.int p1), .val (.int p2), .unset, .unset] [] := by first | (simp [entryFrame, mkF, argsToLocals, Value.category]; done) | rfl
def Q1 (Z : State) (a1 : Addr) (p1 : Int32) (p2 : Int32) (kk : ClassId) (vs : List Value) (ix : Nat) (h0 : Heap) (n0 : Nat) (v : Option Value) (h : Heap) (L : List Loc) : Prop := v = some (.int (own_pl 4 p1 ix p2 vs).1) ∧ Fr n0 L ∧ Keep h0 h [a1] ∧ Arv Z h a1 kk .byte (9 : Int32) (own_pl 4 p1 ix p2 vs).2 (.int (0 : Int32))
set_option maxRecDepth 65536 in
set_option maxHeartbeats 40000000 in
theorem rm1 (l : Launch) (Z : State) (a0 : Array Value) (hw : ∀ d ∈ tables_1, d.before a0 Z = true) (ws : List Jvm.Cond) (a1 : Addr) (p1 : Int32) (p2 : Int32) (kk : ClassId) (vs : List Value) (ix : Nat) (h0 : Heap) (n0 : Nat) (Z0 : n0 ≤ h0.size) (V0 : Arv Z h0 a1 kk .byte (9 : Int32) vs (.int (0 : Int32))) (ga1 : n0 ≤ a1) (hl : vs.length = 9) (ha : ¬ p1 < 0 ∧ p1.toInt ≤ 3) (hp : ¬ p2 < 0) (hix : p1.toNatClampNeg = ix) :
    MetFree l (⟨"com/example/sluice/sluice/state/SnapshotOutput", "putLength", "([BII)I"⟩ : MethodName) (head1 (Jvm.Cond.code (⟨"com/example/sluice/sluice/state/SnapshotOutput", "putLength", "([BII)I"⟩ : MethodName) prog_193_method_19_code 5 (some .int) :: ws) ({ frames := 0, cells := 0, slots := 0, locals := 0 } : Room)) (fun a U => a = #[(.ref a1), (.int p1), (.int p2)] ∧ Z.Warmed39 U.vm ∧ U.heap = h0) (fun _ _ _ _ _ => True) (fun _ U o U' => ∃ v L, o = .returned v ∧ Q1 Z a1 p1 p2 kk vs ix h0 n0 v U'.heap L ∧ FrameEnd U o U' L ({ frames := 0, cells := 0, slots := 0, locals := 0 } : Room).cells ({ frames := 0, cells := 0, slots := 0, locals := 0 } : Room).slots) := by
  refine MetFree.of_bodySF (plainFor_of_name pn_1) hisR ?_
  intro p e s m args below meth c s₁ Bd hml0 hP hK
  obtain ⟨rfl, hZ, hh⟩ := hP
  have hx := Bd.exec
  have hby := Bd.bytes
  have hml : c.maxLocals = 5 := hml0
  have hown : s.vm.findClass "com/example/sluice/sluice/state/SnapshotOutput" = some m.cls := findClass_of_methodNamed Bd.named
  have hnm := (name_of_methodNamed Bd.named Bd.method).1
  have X0 : Stand p l e ({ frames := 0, cells := 0, slots := 0, locals := 0 } : Room) s m #[(.ref a1), (.int p1), (.int p2)] below meth c s₁ [] 0 0 := Stand.of_body Bd
  have e0 : s₁.heap = h0 := by rw [← hh, Bd.state]; rfl
  have N0 := Fr.nil n0
  have pre0 : ∀ t, Steps p.tables e below (s₁.setTop (mkF m 0 #[.val (.ref a1), .val (.int p1), .val (.int p2), .unset, .unset] [])) t → Steps p.tables e below (s₁.setTop (entryFrame m #[(.ref a1), (.int p1), (.int p2)] 5)) t := fun t k => castTop (ef_1 m a1 p1 p2) k
  obtain ⟨ha0, ha1, ha2, ha3, ha4⟩ := own_at ha
  have i0 := hix
  have i1 := own_nx (own_7 ha0 ha1) i0
  have i2 := own_nx (own_7 ha1 ha2) i1
  have i3 := own_nx (own_7 ha2 ha3) i2
  have i4 := own_nx (own_7 ha3 ha4) i3
  have l0 : ix < 9 := by rw [← i0]; exact own_nat ha0
  have l1 : (ix + 1) < 9 := by rw [← i1]; exact own_nat ha1
  have l2 : ((ix + 1) + 1) < 9 := by rw [← i2]; exact own_nat ha2
  have l3 : (((ix + 1) + 1) + 1) < 9 := by rw [← i3]; exact own_nat ha3
  have l4 : ((((ix + 1) + 1) + 1) + 1) < 9 := by rw [← i4]; exact own_nat ha4
  have hr0 : 0 ≤ p2.toInt := by rw [Int32.lt_iff_toInt_lt] at hp; have : (0 : Int32).toInt = 0 := rfl; omega
  have pre1 : ∀ t, Steps p.tables e below (s₁.setTop (mkF m 10 #[.val (.ref a1), .val (.int p1), .val (.int p2), .val (.int p1), .val (.int p2)] [(.int (128 : Int32)), (.int p2)])) t → Steps p.tables e below (s₁.setTop (entryFrame m #[(.ref a1), (.int p1), (.int p2)] 5)) t := by
    intro t k
    refine pre0 t ?_
    refine XS.iloadN X0.here hx rfl (hb hby d1_0) rfl ?_
    show Steps p.tables e below (s₁.setTop (mkF m 1 #[.val (.ref a1), .val (.int p1), .val (.int p2), .unset, .unset] [(.int p1)])) _
    refine XS.istoreN X0.here hx rfl (hb hby d1_1) rfl (l' := #[.val (.ref a1), .val (.int p1), .val (.int p2), .val (.int p1), .unset]) rfl ?_
    show Steps p.tables e below (s₁.setTop (mkF m 2 #[.val (.ref a1), .val (.int p1), .val (.int p2), .val (.int p1), .unset] [])) _
    refine XS.iloadN X0.here hx rfl (hb hby d1_2) rfl ?_
    show Steps p.tables e below (s₁.setTop (mkF m 3 #[.val (.ref a1), .val (.int p1), .val (.int p2), .val (.int p1), .unset] [(.int p2)])) _
    refine XS.istore X0.here hx rfl (hb hby d1_3) rfl (l' := #[.val (.ref a1), .val (.int p1), .val (.int p2), .val (.int p1), .val (.int p2)]) rfl ?_
    show Steps p.tables e below (s₁.setTop (mkF m 5 #[.val (.ref a1), .val (.int p1), .val (.int p2), .val (.int p1), .val (.int p2)] [])) _
    refine XS.iload X0.here hx rfl (hb hby d1_5) rfl ?_
    show Steps p.tables e below (s₁.setTop (mkF m 7 #[.val (.ref a1), .val (.int p1), .val (.int p2), .val (.int p1), .val (.int p2)] [(.int p2)])) _
    refine XS.sipush X0.here hx rfl (hb hby d1_7) ?_
    show Steps p.tables e below (s₁.setTop (mkF m 10 #[.val (.ref a1), .val (.int p1), .val (.int p2), .val (.int p1), .val (.int p2)] [(.int (128 : Int32)), (.int p2)])) _
    exact k
  by_cases hs0 : p2 < (128 : Int32)
  · skip
    have pre2 : ∀ t, Steps p.tables e below (s₁.setTop (mkF m 44 #[.val (.ref a1), .val (.int p1), .val (.int p2), .val (.int (p1 + (1 : Int32))), .val (.int p2)] [(.int (p2.toInt8.toInt32)), (.int p1), (.ref a1)])) t → Steps p.tables e below (s₁.setTop (entryFrame m #[(.ref a1), (.int p1), (.int p2)] 5)) t := by
      intro t k
      refine pre1 t ?_
      refine XS.icmpYes X0.here hx rfl (pc0 := 10) (pc' := 36) rfl (hb hby d1_10) rfl (XT.ii_lt_t hs0) (by decide) (by decide) ?_
      show Steps p.tables e below (s₁.setTop (mkF m 36 #[.val (.ref a1), .val (.int p1), .val (.int p2), .val (.int p1), .val (.int p2)] [])) _
      refine XS.aloadN X0.here hx rfl (hb hby d1_36) rfl rfl ?_
      show Steps p.tables e below (s₁.setTop (mkF m 37 #[.val (.ref a1), .val (.int p1), .val (.int p2), .val (.int p1), .val (.int p2)] [(.ref a1)])) _
      refine XS.iloadN X0.here hx rfl (hb hby d1_37) rfl ?_
      show Steps p.tables e below (s₁.setTop (mkF m 38 #[.val (.ref a1), .val (.int p1), .val (.int p2), .val (.int p1), .val (.int p2)] [(.int p1), (.ref a1)])) _
      refine XS.iinc X0.here hx rfl (hb hby d1_38) rfl (l' := #[.val (.ref a1), .val (.int p1), .val (.int p2), .val (.int (p1 + (1 : Int32))), .val (.int p2)]) rfl ?_
      show Steps p.tables e below (s₁.setTop (mkF m 41 #[.val (.ref a1), .val (.int p1), .val (.int p2), .val (.int (p1 + (1 : Int32))), .val (.int p2)] [(.int p1), (.ref a1)])) _
      refine XS.iload X0.here hx rfl (hb hby d1_41) rfl ?_
      show Steps p.tables e below (s₁.setTop (mkF m 43 #[.val (.ref a1), .val (.int p1), .val (.int p2), .val (.int (p1 + (1 : Int32))), .val (.int p2)] [(.int p2), (.int p1), (.ref a1)])) _
      refine XT.i2b X0.here hx rfl (hb hby d1_43) rfl ?_
      show Steps p.tables e below (s₁.setTop (mkF m 44 #[.val (.ref a1), .val (.int p1), .val (.int p2), .val (.int (p1 + (1 : Int32))), .val (.int p2)] [(.int (p2.toInt8.toInt32)), (.int p1), (.ref a1)])) _
      exact k
    have K4 : Keep h0 h0 [a1] := (Keep.refl h0 [a1])
    obtain ⟨cc3, Ar3, q1_3, Sz3, q3_3, Hs3, G3⟩ := id V0
    have hin3 : ¬ (p1 < 0 ∨ cc3.slots.size ≤ (p1 : Int32).toNatClampNeg) := inb_of Sz3 ha0
    obtain ⟨T3, h3, X3, e3, W3, st3⟩ := stB X0 hx hZ e0 Ar3 hin3 (g := (mkF m 44 #[.val (.ref a1), .val (.int p1), .val (.int p2), .val (.int (p1 + (1 : Int32))), .val (.int p2)] [(.int (p2.toInt8.toInt32)), (.int p1), (.ref a1)])) rfl rfl (hb hby d1_44)
    have N3 := Fr.snoc X3 N0 ga1
    have V3 : Arv Z h3 a1 kk .byte (9 : Int32) (vs.set ix (.int (nar .byte (p2.toInt8.toInt32)))) (.int (0 : Int32)) := Arv.set Ar3 q1_3 Sz3 q3_3 Hs3 G3 (fits_nar_byte _) W3 ix i0 (by simp only [List.length_set, hl]; exact l0)
    have pre5 : ∀ t, Steps p.tables e below (T3.setTop (mkF m 45 #[.val (.ref a1), .val (.int p1), .val (.int p2), .val (.int (p1 + (1 : Int32))), .val (.int p2)] [])) t → Steps p.tables e below (s₁.setTop (entryFrame m #[(.ref a1), (.int p1), (.int p2)] 5)) t := fun t k => pre2 t (st3 t k)
    have K6 : Keep h0 h3 [a1] := (K4.wr W3 (Or.inl (List.mem_of_getElem? (i := 0) rfl)))
    have Z6 : n0 ≤ h3.size := (Nat.le_trans Z0 (Nat.le_of_eq W3.size.symm))
    have pre7 : ∀ t, Steps p.tables e below (T3.setTop (mkF m 46 #[.val (.ref a1), .val (.int p1), .val (.int p2), .val (.int (p1 + (1 : Int32))), .val (.int p2)] [(.int (p1 + (1 : Int32)))])) t → Steps p.tables e below (s₁.setTop (entryFrame m #[(.ref a1), (.int p1), (.int p2)] 5)) t := by
      intro t k
      refine pre5 t ?_
      refine XS.iloadN X3.here hx rfl (hb hby d1_45) rfl ?_
      show Steps p.tables e below (T3.setTop (mkF m 46 #[.val (.ref a1), .val (.int p1), .val (.int p2), .val (.int (p1 + (1 : Int32))), .val (.int p2)] [(.int (p1 + (1 : Int32)))])) _
      exact k
    obtain ⟨fs, hr, hrun, hended, hW, hsame⟩ := X3.leave (v := some (.int (p1 + (1 : Int32)))) (fun h => by rw [Bd.returns] at h; cases h)
    refine ⟨_, _, pre7 _ ?_, hrun, hended, _, _, rfl, ?_, ⟨_, rfl⟩, hW, hsame.mono (by decide) (by decide)⟩
    · exact retOut X3 hx Bd.returns rfl (Or.inl ⟨rfl, by simp, _, rfl⟩) (hb hby d1_46) hr
    · show Q1 Z a1 p1 p2 kk vs ix h0 n0 _ T3.heap _
      rw [e3]
      exact ⟨(by rw [own_pl_z hs0]), N3, K6, (by rw [own_pl_z hs0]; exact V3)⟩
  · skip
    have pre9 : ∀ t, Steps p.tables e below (s₁.setTop (mkF m 25 #[.val (.ref a1), .val (.int p1), .val (.int p2), .val (.int (p1 + (1 : Int32))), .val (.int p2)] [(.int ((p2 ||| (128 : Int32)).toInt8.toInt32)), (.int p1), (.ref a1)])) t → Steps p.tables e below (s₁.setTop (entryFrame m #[(.ref a1), (.int p1), (.int p2)] 5)) t := by
      intro t k
      refine pre1 t ?_
      refine XS.icmpNo X0.here hx rfl (hb hby d1_10) rfl (XT.ii_lt_f hs0) ?_
      show Steps p.tables e below (s₁.setTop (mkF m 13 #[.val (.ref a1), .val (.int p1), .val (.int p2), .val (.int p1), .val (.int p2)] [])) _
      refine XS.aloadN X0.here hx rfl (hb hby d1_13) rfl rfl ?_
      show Steps p.tables e below (s₁.setTop (mkF m 14 #[.val (.ref a1), .val (.int p1), .val (.int p2), .val (.int p1), .val (.int p2)] [(.ref a1)])) _
      refine XS.iloadN X0.here hx rfl (hb hby d1_14) rfl ?_
      show Steps p.tables e below (s₁.setTop (mkF m 15 #[.val (.ref a1), .val (.int p1), .val (.int p2), .val (.int p1), .val (.int p2)] [(.int p1), (.ref a1)])) _
      refine XS.iinc X0.here hx rfl (hb hby d1_15) rfl (l' := #[.val (.ref a1), .val (.int p1), .val (.int p2), .val (.int (p1 + (1 : Int32))), .val (.int p2)]) rfl ?_
      show Steps p.tables e below (s₁.setTop (mkF m 18 #[.val (.ref a1), .val (.int p1), .val (.int p2), .val (.int (p1 + (1 : Int32))), .val (.int p2)] [(.int p1), (.ref a1)])) _
      refine XS.iload X0.here hx rfl (hb hby d1_18) rfl ?_
      show Steps p.tables e below (s₁.setTop (mkF m 20 #[.val (.ref a1), .val (.int p1), .val (.int p2), .val (.int (p1 + (1 : Int32))), .val (.int p2)] [(.int p2), (.int p1), (.ref a1)])) _
      refine XS.sipush X0.here hx rfl (hb hby d1_20) ?_
      show Steps p.tables e below (s₁.setTop (mkF m 23 #[.val (.ref a1), .val (.int p1), .val (.int p2), .val (.int (p1 + (1 : Int32))), .val (.int p2)] [(.int (128 : Int32)), (.int p2), (.int p1), (.ref a1)])) _
      refine XT.ior X0.here hx rfl (hb hby d1_23) rfl ?_
      show Steps p.tables e below (s₁.setTop (mkF m 24 #[.val (.ref a1), .val (.int p1), .val (.int p2), .val (.int (p1 + (1 : Int32))), .val (.int p2)] [(.int (p2 ||| (128 : Int32))), (.int p1), (.ref a1)])) _
      refine XT.i2b X0.here hx rfl (hb hby d1_24) rfl ?_
      show Steps p.tables e below (s₁.setTop (mkF m 25 #[.val (.ref a1), .val (.int p1), .val (.int p2), .val (.int (p1 + (1 : Int32))), .val (.int p2)] [(.int ((p2 ||| (128 : Int32)).toInt8.toInt32)), (.int p1), (.ref a1)])) _
      exact k
    have K11 : Keep h0 h0 [a1] := (Keep.refl h0 [a1])
    obtain ⟨cc10, Ar10, q1_10, Sz10, q3_10, Hs10, G10⟩ := id V0
    have hin10 : ¬ (p1 < 0 ∨ cc10.slots.size ≤ (p1 : Int32).toNatClampNeg) := inb_of Sz10 ha0
    obtain ⟨T10, h10, X10, e10, W10, st10⟩ := stB X0 hx hZ e0 Ar10 hin10 (g := (mkF m 25 #[.val (.ref a1), .val (.int p1), .val (.int p2), .val (.int (p1 + (1 : Int32))), .val (.int p2)] [(.int ((p2 ||| (128 : Int32)).toInt8.toInt32)), (.int p1), (.ref a1)])) rfl rfl (hb hby d1_25)
    have N10 := Fr.snoc X10 N0 ga1
    have V10 : Arv Z h10 a1 kk .byte (9 : Int32) (vs.set ix (.int (nar .byte ((p2 ||| (128 : Int32)).toInt8.toInt32)))) (.int (0 : Int32)) := Arv.set Ar10 q1_10 Sz10 q3_10 Hs10 G10 (fits_nar_byte _) W10 ix i0 (by simp only [List.length_set, hl]; exact l0)
    have pre12 : ∀ t, Steps p.tables e below (T10.setTop (mkF m 26 #[.val (.ref a1), .val (.int p1), .val (.int p2), .val (.int (p1 + (1 : Int32))), .val (.int p2)] [])) t → Steps p.tables e below (s₁.setTop (entryFrame m #[(.ref a1), (.int p1), (.int p2)] 5)) t := fun t k => pre9 t (st10 t k)
    have K13 : Keep h0 h10 [a1] := (K11.wr W10 (Or.inl (List.mem_of_getElem? (i := 0) rfl)))
    have Z13 : n0 ≤ h10.size := (Nat.le_trans Z0 (Nat.le_of_eq W10.size.symm))
    have pre14 : ∀ t, Steps p.tables e below (T10.setTop (mkF m 5 #[.val (.ref a1), .val (.int p1), .val (.int p2), .val (.int (p1 + (1 : Int32))), .val (.int (XT.ushr p2 (7 : Int32)))] [])) t → Steps p.tables e below (s₁.setTop (entryFrame m #[(.ref a1), (.int p1), (.int p2)] 5)) t := by
      intro t k
      refine pre12 t ?_
      refine XS.iload X10.here hx rfl (hb hby d1_26) rfl ?_
      show Steps p.tables e below (T10.setTop (mkF m 28 #[.val (.ref a1), .val (.int p1), .val (.int p2), .val (.int (p1 + (1 : Int32))), .val (.int p2)] [(.int p2)])) _
      refine XS.bipush X10.here hx rfl (hb hby d1_28) ?_
      show Steps p.tables e below (T10.setTop (mkF m 30 #[.val (.ref a1), .val (.int p1), .val (.int p2), .val (.int (p1 + (1 : Int32))), .val (.int p2)] [(.int (7 : Int32)), (.int p2)])) _
      refine XT.iushr X10.here hx rfl (hb hby d1_30) rfl ?_
      show Steps p.tables e below (T10.setTop (mkF m 31 #[.val (.ref a1), .val (.int p1), .val (.int p2), .val (.int (p1 + (1 : Int32))), .val (.int p2)] [(.int (XT.ushr p2 (7 : Int32)))])) _
      refine XS.istore X10.here hx rfl (hb hby d1_31) rfl (l' := #[.val (.ref a1), .val (.int p1), .val (.int p2), .val (.int (p1 + (1 : Int32))), .val (.int (XT.ushr p2 (7 : Int32)))]) rfl ?_
      show Steps p.tables e below (T10.setTop (mkF m 33 #[.val (.ref a1), .val (.int p1), .val (.int p2), .val (.int (p1 + (1 : Int32))), .val (.int (XT.ushr p2 (7 : Int32)))] [])) _
      refine XS.goto X10.here hx rfl (pc0 := 33) (pc' := 5) rfl (hb hby d1_33) (by decide) (by decide) ?_
      show Steps p.tables e below (T10.setTop (mkF m 5 #[.val (.ref a1), .val (.int p1), .val (.int p2), .val (.int (p1 + (1 : Int32))), .val (.int (XT.ushr p2 (7 : Int32)))] [])) _
      exact k
    obtain ⟨r1, hn_r1, pre15⟩ : ∃ r1 : Int32, r1 = (XT.ushr p2 (7 : Int32)) ∧ ∀ t, Steps p.tables e below (T10.setTop (mkF m 5 #[.val (.ref a1), .val (.int p1), .val (.int p2), .val (.int (p1 + (1 : Int32))), .val (.int r1)] [])) t → Steps p.tables e below (s₁.setTop (entryFrame m #[(.ref a1), (.int p1), (.int p2)] 5)) t := ⟨_, rfl, pre14⟩
    have u0 := own_sh p2
    rw [← hn_r1] at u0
    have hr1 : 0 ≤ r1.toInt := by omega
    have rg0 := rng32 p2
    have pre16 : ∀ t, Steps p.tables e below (T10.setTop (mkF m 10 #[.val (.ref a1), .val (.int p1), .val (.int p2), .val (.int (p1 + (1 : Int32))), .val (.int r1)] [(.int (128 : Int32)), (.int r1)])) t → Steps p.tables e below (s₁.setTop (entryFrame m #[(.ref a1), (.int p1), (.int p2)] 5)) t := by
      intro t k
      refine pre15 t ?_
      refine XS.iload X10.here hx rfl (hb hby d1_5) rfl ?_
      show Steps p.tables e below (T10.setTop (mkF m 7 #[.val (.ref a1), .val (.int p1), .val (.int p2), .val (.int (p1 + (1 : Int32))), .val (.int r1)] [(.int r1)])) _
      refine XS.sipush X10.here hx rfl (hb hby d1_7) ?_
      show Steps p.tables e below (T10.setTop (mkF m 10 #[.val (.ref a1), .val (.int p1), .val (.int p2), .val (.int (p1 + (1 : Int32))), .val (.int r1)] [(.int (128 : Int32)), (.int r1)])) _
      exact k
    by_cases hs1 : r1 < (128 : Int32)
    · skip
      have pre17 : ∀ t, Steps p.tables e below (T10.setTop (mkF m 44 #[.val (.ref a1), .val (.int p1), .val (.int p2), .val (.int ((p1 + (1 : Int32)) + (1 : Int32))), .val (.int r1)] [(.int (r1.toInt8.toInt32)), (.int (p1 + (1 : Int32))), (.ref a1)])) t → Steps p.tables e below (s₁.setTop (entryFrame m #[(.ref a1), (.int p1), (.int p2)] 5)) t := by
        intro t k
        refine pre16 t ?_
        refine XS.icmpYes X10.here hx rfl (pc0 := 10) (pc' := 36) rfl (hb hby d1_10) rfl (XT.ii_lt_t hs1) (by decide) (by decide) ?_
        show Steps p.tables e below (T10.setTop (mkF m 36 #[.val (.ref a1), .val (.int p1), .val (.int p2), .val (.int (p1 + (1 : Int32))), .val (.int r1)] [])) _
        refine XS.aloadN X10.here hx rfl (hb hby d1_36) rfl rfl ?_
        show Steps p.tables e below (T10.setTop (mkF m 37 #[.val (.ref a1), .val (.int p1), .val (.int p2), .val (.int (p1 + (1 : Int32))), .val (.int r1)] [(.ref a1)])) _
        refine XS.iloadN X10.here hx rfl (hb hby d1_37) rfl ?_
        show Steps p.tables e below (T10.setTop (mkF m 38 #[.val (.ref a1), .val (.int p1), .val (.int p2), .val (.int (p1 + (1 : Int32))), .val (.int r1)] [(.int (p1 + (1 : Int32))), (.ref a1)])) _
        refine XS.iinc X10.here hx rfl (hb hby d1_38) rfl (l' := #[.val (.ref a1), .val (.int p1), .val (.int p2), .val (.int ((p1 + (1 : Int32)) + (1 : Int32))), .val (.int r1)]) rfl ?_
        show Steps p.tables e below (T10.setTop (mkF m 41 #[.val (.ref a1), .val (.int p1), .val (.int p2), .val (.int ((p1 + (1 : Int32)) + (1 : Int32))), .val (.int r1)] [(.int (p1 + (1 : Int32))), (.ref a1)])) _
        refine XS.iload X10.here hx rfl (hb hby d1_41) rfl ?_
        show Steps p.tables e below (T10.setTop (mkF m 43 #[.val (.ref a1), .val (.int p1), .val (.int p2), .val (.int ((p1 + (1 : Int32)) + (1 : Int32))), .val (.int r1)] [(.int r1), (.int (p1 + (1 : Int32))), (.ref a1)])) _
        refine XT.i2b X10.here hx rfl (hb hby d1_43) rfl ?_
        show Steps p.tables e below (T10.setTop (mkF m 44 #[.val (.ref a1), .val (.int p1), .val (.int p2), .val (.int ((p1 + (1 : Int32)) + (1 : Int32))), .val (.int r1)] [(.int (r1.toInt8.toInt32)), (.int (p1 + (1 : Int32))), (.ref a1)])) _
        exact k
      obtain ⟨cc18, Ar18, q1_18, Sz18, q3_18, Hs18, G18⟩ := id V10
      have hin18 : ¬ ((p1 + (1 : Int32)) < 0 ∨ cc18.slots.size ≤ ((p1 + (1 : Int32)) : Int32).toNatClampNeg) := inb_of Sz18 ha1
      obtain ⟨T18, h18, X18, e18, W18, st18⟩ := stB X10 hx hZ e10 Ar18 hin18 (g := (mkF m 44 #[.val (.ref a1), .val (.int p1), .val (.int p2), .val (.int ((p1 + (1 : Int32)) + (1 : Int32))), .val (.int r1)] [(.int (r1.toInt8.toInt32)), (.int (p1 + (1 : Int32))), (.ref a1)])) rfl rfl (hb hby d1_44)
      have N18 := Fr.snoc X18 N10 ga1
      have V18 : Arv Z h18 a1 kk .byte (9 : Int32) ((vs.set ix (.int (nar .byte ((p2 ||| (128 : Int32)).toInt8.toInt32)))).set (ix + 1) (.int (nar .byte (r1.toInt8.toInt32)))) (.int (0 : Int32)) := Arv.set Ar18 q1_18 Sz18 q3_18 Hs18 G18 (fits_nar_byte _) W18 (ix + 1) i1 (by simp only [List.length_set, hl]; exact l1)
      have pre20 : ∀ t, Steps p.tables e below (T18.setTop (mkF m 45 #[.val (.ref a1), .val (.int p1), .val (.int p2), .val (.int ((p1 + (1 : Int32)) + (1 : Int32))), .val (.int r1)] [])) t → Steps p.tables e below (s₁.setTop (entryFrame m #[(.ref a1), (.int p1), (.int p2)] 5)) t := fun t k => pre17 t (st18 t k)
      have K21 : Keep h0 h18 [a1] := (K13.wr W18 (Or.inl (List.mem_of_getElem? (i := 0) rfl)))
      have Z21 : n0 ≤ h18.size := (Nat.le_trans Z13 (Nat.le_of_eq W18.size.symm))
      have pre22 : ∀ t, Steps p.tables e below (T18.setTop (mkF m 46 #[.val (.ref a1), .val (.int p1), .val (.int p2), .val (.int ((p1 + (1 : Int32)) + (1 : Int32))), .val (.int r1)] [(.int ((p1 + (1 : Int32)) + (1 : Int32)))])) t → Steps p.tables e below (s₁.setTop (entryFrame m #[(.ref a1), (.int p1), (.int p2)] 5)) t := by
        intro t k
        refine pre20 t ?_
        refine XS.iloadN X18.here hx rfl (hb hby d1_45) rfl ?_
        show Steps p.tables e below (T18.setTop (mkF m 46 #[.val (.ref a1), .val (.int p1), .val (.int p2), .val (.int ((p1 + (1 : Int32)) + (1 : Int32))), .val (.int r1)] [(.int ((p1 + (1 : Int32)) + (1 : Int32)))])) _
        exact k
      obtain ⟨fs, hr, hrun, hended, hW, hsame⟩ := X18.leave (v := some (.int ((p1 + (1 : Int32)) + (1 : Int32)))) (fun h => by rw [Bd.returns] at h; cases h)
      refine ⟨_, _, pre22 _ ?_, hrun, hended, _, _, rfl, ?_, ⟨_, rfl⟩, hW, hsame.mono (by decide) (by decide)⟩
      · exact retOut X18 hx Bd.returns rfl (Or.inl ⟨rfl, by simp, _, rfl⟩) (hb hby d1_46) hr
      · show Q1 Z a1 p1 p2 kk vs ix h0 n0 _ T18.heap _
        rw [e18]
        exact ⟨(by rw [own_pl_s hs0, ← hn_r1, own_pl_z hs1]), N18, K21, (by rw [own_pl_s hs0, ← hn_r1, own_pl_z hs1]; exact V18)⟩
    · skip
      have pre24 : ∀ t, Steps p.tables e below (T10.setTop (mkF m 25 #[.val (.ref a1), .val (.int p1), .val (.int p2), .val (.int ((p1 + (1 : Int32)) + (1 : Int32))), .val (.int r1)] [(.int ((r1 ||| (128 : Int32)).toInt8.toInt32)), (.int (p1 + (1 : Int32))), (.ref a1)])) t → Steps p.tables e below (s₁.setTop (entryFrame m #[(.ref a1), (.int p1), (.int p2)] 5)) t := by
        intro t k
        refine pre16 t ?_
        refine XS.icmpNo X10.here hx rfl (hb hby d1_10) rfl (XT.ii_lt_f hs1) ?_
        show Steps p.tables e below (T10.setTop (mkF m 13 #[.val (.ref a1), .val (.int p1), .val (.int p2), .val (.int (p1 + (1 : Int32))), .val (.int r1)] [])) _
        refine XS.aloadN X10.here hx rfl (hb hby d1_13) rfl rfl ?_
        show Steps p.tables e below (T10.setTop (mkF m 14 #[.val (.ref a1), .val (.int p1), .val (.int p2), .val (.int (p1 + (1 : Int32))), .val (.int r1)] [(.ref a1)])) _
        refine XS.iloadN X10.here hx rfl (hb hby d1_14) rfl ?_
        show Steps p.tables e below (T10.setTop (mkF m 15 #[.val (.ref a1), .val (.int p1), .val (.int p2), .val (.int (p1 + (1 : Int32))), .val (.int r1)] [(.int (p1 + (1 : Int32))), (.ref a1)])) _
        refine XS.iinc X10.here hx rfl (hb hby d1_15) rfl (l' := #[.val (.ref a1), .val (.int p1), .val (.int p2), .val (.int ((p1 + (1 : Int32)) + (1 : Int32))), .val (.int r1)]) rfl ?_
        show Steps p.tables e below (T10.setTop (mkF m 18 #[.val (.ref a1), .val (.int p1), .val (.int p2), .val (.int ((p1 + (1 : Int32)) + (1 : Int32))), .val (.int r1)] [(.int (p1 + (1 : Int32))), (.ref a1)])) _
        refine XS.iload X10.here hx rfl (hb hby d1_18) rfl ?_
        show Steps p.tables e below (T10.setTop (mkF m 20 #[.val (.ref a1), .val (.int p1), .val (.int p2), .val (.int ((p1 + (1 : Int32)) + (1 : Int32))), .val (.int r1)] [(.int r1), (.int (p1 + (1 : Int32))), (.ref a1)])) _
        refine XS.sipush X10.here hx rfl (hb hby d1_20) ?_
        show Steps p.tables e below (T10.setTop (mkF m 23 #[.val (.ref a1), .val (.int p1), .val (.int p2), .val (.int ((p1 + (1 : Int32)) + (1 : Int32))), .val (.int r1)] [(.int (128 : Int32)), (.int r1), (.int (p1 + (1 : Int32))), (.ref a1)])) _
        refine XT.ior X10.here hx rfl (hb hby d1_23) rfl ?_
        show Steps p.tables e below (T10.setTop (mkF m 24 #[.val (.ref a1), .val (.int p1), .val (.int p2), .val (.int ((p1 + (1 : Int32)) + (1 : Int32))), .val (.int r1)] [(.int (r1 ||| (128 : Int32))), (.int (p1 + (1 : Int32))), (.ref a1)])) _
        refine XT.i2b X10.here hx rfl (hb hby d1_24) rfl ?_
        show Steps p.tables e below (T10.setTop (mkF m 25 #[.val (.ref a1), .val (.int p1), .val (.int p2), .val (.int ((p1 + (1 : Int32)) + (1 : Int32))), .val (.int r1)] [(.int ((r1 ||| (128 : Int32)).toInt8.toInt32)), (.int (p1 + (1 : Int32))), (.ref a1)])) _
        exact k
      obtain ⟨cc25, Ar25, q1_25, Sz25, q3_25, Hs25, G25⟩ := id V10
      have hin25 : ¬ ((p1 + (1 : Int32)) < 0 ∨ cc25.slots.size ≤ ((p1 + (1 : Int32)) : Int32).toNatClampNeg) := inb_of Sz25 ha1
      obtain ⟨T25, h25, X25, e25, W25, st25⟩ := stB X10 hx hZ e10 Ar25 hin25 (g := (mkF m 25 #[.val (.ref a1), .val (.int p1), .val (.int p2), .val (.int ((p1 + (1 : Int32)) + (1 : Int32))), .val (.int r1)] [(.int ((r1 ||| (128 : Int32)).toInt8.toInt32)), (.int (p1 + (1 : Int32))), (.ref a1)])) rfl rfl (hb hby d1_25)
      have N25 := Fr.snoc X25 N10 ga1
      have V25 : Arv Z h25 a1 kk .byte (9 : Int32) ((vs.set ix (.int (nar .byte ((p2 ||| (128 : Int32)).toInt8.toInt32)))).set (ix + 1) (.int (nar .byte ((r1 ||| (128 : Int32)).toInt8.toInt32)))) (.int (0 : Int32)) := Arv.set Ar25 q1_25 Sz25 q3_25 Hs25 G25 (fits_nar_byte _) W25 (ix + 1) i1 (by simp only [List.length_set, hl]; exact l1)
      have pre27 : ∀ t, Steps p.tables e below (T25.setTop (mkF m 26 #[.val (.ref a1), .val (.int p1), .val (.int p2), .val (.int ((p1 + (1 : Int32)) + (1 : Int32))), .val (.int r1)] [])) t → Steps p.tables e below (s₁.setTop (entryFrame m #[(.ref a1), (.int p1), (.int p2)] 5)) t := fun t k => pre24 t (st25 t k)
      have K28 : Keep h0 h25 [a1] := (K13.wr W25 (Or.inl (List.mem_of_getElem? (i := 0) rfl)))
      have Z28 : n0 ≤ h25.size := (Nat.le_trans Z13 (Nat.le_of_eq W25.size.symm))
      have pre29 : ∀ t, Steps p.tables e below (T25.setTop (mkF m 5 #[.val (.ref a1), .val (.int p1), .val (.int p2), .val (.int ((p1 + (1 : Int32)) + (1 : Int32))), .val (.int (XT.ushr r1 (7 : Int32)))] [])) t → Steps p.tables e below (s₁.setTop (entryFrame m #[(.ref a1), (.int p1), (.int p2)] 5)) t := by
        intro t k
        refine pre27 t ?_
        refine XS.iload X25.here hx rfl (hb hby d1_26) rfl ?_
        show Steps p.tables e below (T25.setTop (mkF m 28 #[.val (.ref a1), .val (.int p1), .val (.int p2), .val (.int ((p1 + (1 : Int32)) + (1 : Int32))), .val (.int r1)] [(.int r1)])) _
        refine XS.bipush X25.here hx rfl (hb hby d1_28) ?_
        show Steps p.tables e below (T25.setTop (mkF m 30 #[.val (.ref a1), .val (.int p1), .val (.int p2), .val (.int ((p1 + (1 : Int32)) + (1 : Int32))), .val (.int r1)] [(.int (7 : Int32)), (.int r1)])) _
        refine XT.iushr X25.here hx rfl (hb hby d1_30) rfl ?_
        show Steps p.tables e below (T25.setTop (mkF m 31 #[.val (.ref a1), .val (.int p1), .val (.int p2), .val (.int ((p1 + (1 : Int32)) + (1 : Int32))), .val (.int r1)] [(.int (XT.ushr r1 (7 : Int32)))])) _
        refine XS.istore X25.here hx rfl (hb hby d1_31) rfl (l' := #[.val (.ref a1), .val (.int p1), .val (.int p2), .val (.int ((p1 + (1 : Int32)) + (1 : Int32))), .val (.int (XT.ushr r1 (7 : Int32)))]) rfl ?_
        show Steps p.tables e below (T25.setTop (mkF m 33 #[.val (.ref a1), .val (.int p1), .val (.int p2), .val (.int ((p1 + (1 : Int32)) + (1 : Int32))), .val (.int (XT.ushr r1 (7 : Int32)))] [])) _
        refine XS.goto X25.here hx rfl (pc0 := 33) (pc' := 5) rfl (hb hby d1_33) (by decide) (by decide) ?_
        show Steps p.tables e below (T25.setTop (mkF m 5 #[.val (.ref a1), .val (.int p1), .val (.int p2), .val (.int ((p1 + (1 : Int32)) + (1 : Int32))), .val (.int (XT.ushr r1 (7 : Int32)))] [])) _
        exact k
      obtain ⟨r2, hn_r2, pre30⟩ : ∃ r2 : Int32, r2 = (XT.ushr r1 (7 : Int32)) ∧ ∀ t, Steps p.tables e below (T25.setTop (mkF m 5 #[.val (.ref a1), .val (.int p1), .val (.int p2), .val (.int ((p1 + (1 : Int32)) + (1 : Int32))), .val (.int r2)] [])) t → Steps p.tables e below (s₁.setTop (entryFrame m #[(.ref a1), (.int p1), (.int p2)] 5)) t := ⟨_, rfl, pre29⟩
      have u1 := own_sh r1
      rw [← hn_r2] at u1
      have hr2 : 0 ≤ r2.toInt := by omega
      have rg1 := rng32 r1
      have pre31 : ∀ t, Steps p.tables e below (T25.setTop (mkF m 10 #[.val (.ref a1), .val (.int p1), .val (.int p2), .val (.int ((p1 + (1 : Int32)) + (1 : Int32))), .val (.int r2)] [(.int (128 : Int32)), (.int r2)])) t → Steps p.tables e below (s₁.setTop (entryFrame m #[(.ref a1), (.int p1), (.int p2)] 5)) t := by
        intro t k
        refine pre30 t ?_
        refine XS.iload X25.here hx rfl (hb hby d1_5) rfl ?_
        show Steps p.tables e below (T25.setTop (mkF m 7 #[.val (.ref a1), .val (.int p1), .val (.int p2), .val (.int ((p1 + (1 : Int32)) + (1 : Int32))), .val (.int r2)] [(.int r2)])) _
        refine XS.sipush X25.here hx rfl (hb hby d1_7) ?_
        show Steps p.tables e below (T25.setTop (mkF m 10 #[.val (.ref a1), .val (.int p1), .val (.int p2), .val (.int ((p1 + (1 : Int32)) + (1 : Int32))), .val (.int r2)] [(.int (128 : Int32)), (.int r2)])) _
        exact k
      by_cases hs2 : r2 < (128 : Int32)
      · skip
        have pre32 : ∀ t, Steps p.tables e below (T25.setTop (mkF m 44 #[.val (.ref a1), .val (.int p1), .val (.int p2), .val (.int (((p1 + (1 : Int32)) + (1 : Int32)) + (1 : Int32))), .val (.int r2)] [(.int (r2.toInt8.toInt32)), (.int ((p1 + (1 : Int32)) + (1 : Int32))), (.ref a1)])) t → Steps p.tables e below (s₁.setTop (entryFrame m #[(.ref a1), (.int p1), (.int p2)] 5)) t := by
          intro t k
          refine pre31 t ?_
          refine XS.icmpYes X25.here hx rfl (pc0 := 10) (pc' := 36) rfl (hb hby d1_10) rfl (XT.ii_lt_t hs2) (by decide) (by decide) ?_
          show Steps p.tables e below (T25.setTop (mkF m 36 #[.val (.ref a1), .val (.int p1), .val (.int p2), .val (.int ((p1 + (1 : Int32)) + (1 : Int32))), .val (.int r2)] [])) _
          refine XS.aloadN X25.here hx rfl (hb hby d1_36) rfl rfl ?_
          show Steps p.tables e below (T25.setTop (mkF m 37 #[.val (.ref a1), .val (.int p1), .val (.int p2), .val (.int ((p1 + (1 : Int32)) + (1 : Int32))), .val (.int r2)] [(.ref a1)])) _
          refine XS.iloadN X25.here hx rfl (hb hby d1_37) rfl ?_
          show Steps p.tables e below (T25.setTop (mkF m 38 #[.val (.ref a1), .val (.int p1), .val (.int p2), .val (.int ((p1 + (1 : Int32)) + (1 : Int32))), .val (.int r2)] [(.int ((p1 + (1 : Int32)) + (1 : Int32))), (.ref a1)])) _
          refine XS.iinc X25.here hx rfl (hb hby d1_38) rfl (l' := #[.val (.ref a1), .val (.int p1), .val (.int p2), .val (.int (((p1 + (1 : Int32)) + (1 : Int32)) + (1 : Int32))), .val (.int r2)]) rfl ?_
          show Steps p.tables e below (T25.setTop (mkF m 41 #[.val (.ref a1), .val (.int p1), .val (.int p2), .val (.int (((p1 + (1 : Int32)) + (1 : Int32)) + (1 : Int32))), .val (.int r2)] [(.int ((p1 + (1 : Int32)) + (1 : Int32))), (.ref a1)])) _
          refine XS.iload X25.here hx rfl (hb hby d1_41) rfl ?_
          show Steps p.tables e below (T25.setTop (mkF m 43 #[.val (.ref a1), .val (.int p1), .val (.int p2), .val (.int (((p1 + (1 : Int32)) + (1 : Int32)) + (1 : Int32))), .val (.int r2)] [(.int r2), (.int ((p1 + (1 : Int32)) + (1 : Int32))), (.ref a1)])) _
          refine XT.i2b X25.here hx rfl (hb hby d1_43) rfl ?_
          show Steps p.tables e below (T25.setTop (mkF m 44 #[.val (.ref a1), .val (.int p1), .val (.int p2), .val (.int (((p1 + (1 : Int32)) + (1 : Int32)) + (1 : Int32))), .val (.int r2)] [(.int (r2.toInt8.toInt32)), (.int ((p1 + (1 : Int32)) + (1 : Int32))), (.ref a1)])) _
          exact k
        obtain ⟨cc33, Ar33, q1_33, Sz33, q3_33, Hs33, G33⟩ := id V25
        have hin33 : ¬ (((p1 + (1 : Int32)) + (1 : Int32)) < 0 ∨ cc33.slots.size ≤ (((p1 + (1 : Int32)) + (1 : Int32)) : Int32).toNatClampNeg) := inb_of Sz33 ha2
        obtain ⟨T33, h33, X33, e33, W33, st33⟩ := stB X25 hx hZ e25 Ar33 hin33 (g := (mkF m 44 #[.val (.ref a1), .val (.int p1), .val (.int p2), .val (.int (((p1 + (1 : Int32)) + (1 : Int32)) + (1 : Int32))), .val (.int r2)] [(.int (r2.toInt8.toInt32)), (.int ((p1 + (1 : Int32)) + (1 : Int32))), (.ref a1)])) rfl rfl (hb hby d1_44)
        have N33 := Fr.snoc X33 N25 ga1
        have V33 : Arv Z h33 a1 kk .byte (9 : Int32) (((vs.set ix (.int (nar .byte ((p2 ||| (128 : Int32)).toInt8.toInt32)))).set (ix + 1) (.int (nar .byte ((r1 ||| (128 : Int32)).toInt8.toInt32)))).set ((ix + 1) + 1) (.int (nar .byte (r2.toInt8.toInt32)))) (.int (0 : Int32)) := Arv.set Ar33 q1_33 Sz33 q3_33 Hs33 G33 (fits_nar_byte _) W33 ((ix + 1) + 1) i2 (by simp only [List.length_set, hl]; exact l2)
        have pre35 : ∀ t, Steps p.tables e below (T33.setTop (mkF m 45 #[.val (.ref a1), .val (.int p1), .val (.int p2), .val (.int (((p1 + (1 : Int32)) + (1 : Int32)) + (1 : Int32))), .val (.int r2)] [])) t → Steps p.tables e below (s₁.setTop (entryFrame m #[(.ref a1), (.int p1), (.int p2)] 5)) t := fun t k => pre32 t (st33 t k)
        have K36 : Keep h0 h33 [a1] := (K28.wr W33 (Or.inl (List.mem_of_getElem? (i := 0) rfl)))
        have Z36 : n0 ≤ h33.size := (Nat.le_trans Z28 (Nat.le_of_eq W33.size.symm))
        have pre37 : ∀ t, Steps p.tables e below (T33.setTop (mkF m 46 #[.val (.ref a1), .val (.int p1), .val (.int p2), .val (.int (((p1 + (1 : Int32)) + (1 : Int32)) + (1 : Int32))), .val (.int r2)] [(.int (((p1 + (1 : Int32)) + (1 : Int32)) + (1 : Int32)))])) t → Steps p.tables e below (s₁.setTop (entryFrame m #[(.ref a1), (.int p1), (.int p2)] 5)) t := by
          intro t k
          refine pre35 t ?_
          refine XS.iloadN X33.here hx rfl (hb hby d1_45) rfl ?_
          show Steps p.tables e below (T33.setTop (mkF m 46 #[.val (.ref a1), .val (.int p1), .val (.int p2), .val (.int (((p1 + (1 : Int32)) + (1 : Int32)) + (1 : Int32))), .val (.int r2)] [(.int (((p1 + (1 : Int32)) + (1 : Int32)) + (1 : Int32)))])) _
          exact k
        obtain ⟨fs, hr, hrun, hended, hW, hsame⟩ := X33.leave (v := some (.int (((p1 + (1 : Int32)) + (1 : Int32)) + (1 : Int32)))) (fun h => by rw [Bd.returns] at h; cases h)
        refine ⟨_, _, pre37 _ ?_, hrun, hended, _, _, rfl, ?_, ⟨_, rfl⟩, hW, hsame.mono (by decide) (by decide)⟩
        · exact retOut X33 hx Bd.returns rfl (Or.inl ⟨rfl, by simp, _, rfl⟩) (hb hby d1_46) hr
        · show Q1 Z a1 p1 p2 kk vs ix h0 n0 _ T33.heap _
          rw [e33]
          exact ⟨(by rw [own_pl_s hs0, ← hn_r1, own_pl_s hs1, ← hn_r2, own_pl_z hs2]), N33, K36, (by rw [own_pl_s hs0, ← hn_r1, own_pl_s hs1, ← hn_r2, own_pl_z hs2]; exact V33)⟩
      · skip
        have pre39 : ∀ t, Steps p.tables e below (T25.setTop (mkF m 25 #[.val (.ref a1), .val (.int p1), .val (.int p2), .val (.int (((p1 + (1 : Int32)) + (1 : Int32)) + (1 : Int32))), .val (.int r2)] [(.int ((r2 ||| (128 : Int32)).toInt8.toInt32)), (.int ((p1 + (1 : Int32)) + (1 : Int32))), (.ref a1)])) t → Steps p.tables e below (s₁.setTop (entryFrame m #[(.ref a1), (.int p1), (.int p2)] 5)) t := by
          intro t k
          refine pre31 t ?_
          refine XS.icmpNo X25.here hx rfl (hb hby d1_10) rfl (XT.ii_lt_f hs2) ?_
          show Steps p.tables e below (T25.setTop (mkF m 13 #[.val (.ref a1), .val (.int p1), .val (.int p2), .val (.int ((p1 + (1 : Int32)) + (1 : Int32))), .val (.int r2)] [])) _
          refine XS.aloadN X25.here hx rfl (hb hby d1_13) rfl rfl ?_
          show Steps p.tables e below (T25.setTop (mkF m 14 #[.val (.ref a1), .val (.int p1), .val (.int p2), .val (.int ((p1 + (1 : Int32)) + (1 : Int32))), .val (.int r2)] [(.ref a1)])) _
          refine XS.iloadN X25.here hx rfl (hb hby d1_14) rfl ?_
          show Steps p.tables e below (T25.setTop (mkF m 15 #[.val (.ref a1), .val (.int p1), .val (.int p2), .val (.int ((p1 + (1 : Int32)) + (1 : Int32))), .val (.int r2)] [(.int ((p1 + (1 : Int32)) + (1 : Int32))), (.ref a1)])) _
          refine XS.iinc X25.here hx rfl (hb hby d1_15) rfl (l' := #[.val (.ref a1), .val (.int p1), .val (.int p2), .val (.int (((p1 + (1 : Int32)) + (1 : Int32)) + (1 : Int32))), .val (.int r2)]) rfl ?_
          show Steps p.tables e below (T25.setTop (mkF m 18 #[.val (.ref a1), .val (.int p1), .val (.int p2), .val (.int (((p1 + (1 : Int32)) + (1 : Int32)) + (1 : Int32))), .val (.int r2)] [(.int ((p1 + (1 : Int32)) + (1 : Int32))), (.ref a1)])) _
          refine XS.iload X25.here hx rfl (hb hby d1_18) rfl ?_
          show Steps p.tables e below (T25.setTop (mkF m 20 #[.val (.ref a1), .val (.int p1), .val (.int p2), .val (.int (((p1 + (1 : Int32)) + (1 : Int32)) + (1 : Int32))), .val (.int r2)] [(.int r2), (.int ((p1 + (1 : Int32)) + (1 : Int32))), (.ref a1)])) _
          refine XS.sipush X25.here hx rfl (hb hby d1_20) ?_
          show Steps p.tables e below (T25.setTop (mkF m 23 #[.val (.ref a1), .val (.int p1), .val (.int p2), .val (.int (((p1 + (1 : Int32)) + (1 : Int32)) + (1 : Int32))), .val (.int r2)] [(.int (128 : Int32)), (.int r2), (.int ((p1 + (1 : Int32)) + (1 : Int32))), (.ref a1)])) _
          refine XT.ior X25.here hx rfl (hb hby d1_23) rfl ?_
          show Steps p.tables e below (T25.setTop (mkF m 24 #[.val (.ref a1), .val (.int p1), .val (.int p2), .val (.int (((p1 + (1 : Int32)) + (1 : Int32)) + (1 : Int32))), .val (.int r2)] [(.int (r2 ||| (128 : Int32))), (.int ((p1 + (1 : Int32)) + (1 : Int32))), (.ref a1)])) _
          refine XT.i2b X25.here hx rfl (hb hby d1_24) rfl ?_
          show Steps p.tables e below (T25.setTop (mkF m 25 #[.val (.ref a1), .val (.int p1), .val (.int p2), .val (.int (((p1 + (1 : Int32)) + (1 : Int32)) + (1 : Int32))), .val (.int r2)] [(.int ((r2 ||| (128 : Int32)).toInt8.toInt32)), (.int ((p1 + (1 : Int32)) + (1 : Int32))), (.ref a1)])) _
          exact k
        obtain ⟨cc40, Ar40, q1_40, Sz40, q3_40, Hs40, G40⟩ := id V25
        have hin40 : ¬ (((p1 + (1 : Int32)) + (1 : Int32)) < 0 ∨ cc40.slots.size ≤ (((p1 + (1 : Int32)) + (1 : Int32)) : Int32).toNatClampNeg) := inb_of Sz40 ha2
        obtain ⟨T40, h40, X40, e40, W40, st40⟩ := stB X25 hx hZ e25 Ar40 hin40 (g := (mkF m 25 #[.val (.ref a1), .val (.int p1), .val (.int p2), .val (.int (((p1 + (1 : Int32)) + (1 : Int32)) + (1 : Int32))), .val (.int r2)] [(.int ((r2 ||| (128 : Int32)).toInt8.toInt32)), (.int ((p1 + (1 : Int32)) + (1 : Int32))), (.ref a1)])) rfl rfl (hb hby d1_25)
        have N40 := Fr.snoc X40 N25 ga1
        have V40 : Arv Z h40 a1 kk .byte (9 : Int32) (((vs.set ix (.int (nar .byte ((p2 ||| (128 : Int32)).toInt8.toInt32)))).set (ix + 1) (.int (nar .byte ((r1 ||| (128 : Int32)).toInt8.toInt32)))).set ((ix + 1) + 1) (.int (nar .byte ((r2 ||| (128 : Int32)).toInt8.toInt32)))) (.int (0 : Int32)) := Arv.set Ar40 q1_40 Sz40 q3_40 Hs40 G40 (fits_nar_byte _) W40 ((ix + 1) + 1) i2 (by simp only [List.length_set, hl]; exact l2)
        have pre42 : ∀ t, Steps p.tables e below (T40.setTop (mkF m 26 #[.val (.ref a1), .val (.int p1), .val (.int p2), .val (.int (((p1 + (1 : Int32)) + (1 : Int32)) + (1 : Int32))), .val (.int r2)] [])) t → Steps p.tables e below (s₁.setTop (entryFrame m #[(.ref a1), (.int p1), (.int p2)] 5)) t := fun t k => pre39 t (st40 t k)
        have K43 : Keep h0 h40 [a1] := (K28.wr W40 (Or.inl (List.mem_of_getElem? (i := 0) rfl)))
        have Z43 : n0 ≤ h40.size := (Nat.le_trans Z28 (Nat.le_of_eq W40.size.symm))
        have pre44 : ∀ t, Steps p.tables e below (T40.setTop (mkF m 5 #[.val (.ref a1), .val (.int p1), .val (.int p2), .val (.int (((p1 + (1 : Int32)) + (1 : Int32)) + (1 : Int32))), .val (.int (XT.ushr r2 (7 : Int32)))] [])) t → Steps p.tables e below (s₁.setTop (entryFrame m #[(.ref a1), (.int p1), (.int p2)] 5)) t := by
          intro t k
          refine pre42 t ?_
          refine XS.iload X40.here hx rfl (hb hby d1_26) rfl ?_
          show Steps p.tables e below (T40.setTop (mkF m 28 #[.val (.ref a1), .val (.int p1), .val (.int p2), .val (.int (((p1 + (1 : Int32)) + (1 : Int32)) + (1 : Int32))), .val (.int r2)] [(.int r2)])) _
          refine XS.bipush X40.here hx rfl (hb hby d1_28) ?_
          show Steps p.tables e below (T40.setTop (mkF m 30 #[.val (.ref a1), .val (.int p1), .val (.int p2), .val (.int (((p1 + (1 : Int32)) + (1 : Int32)) + (1 : Int32))), .val (.int r2)] [(.int (7 : Int32)), (.int r2)])) _
          refine XT.iushr X40.here hx rfl (hb hby d1_30) rfl ?_
          show Steps p.tables e below (T40.setTop (mkF m 31 #[.val (.ref a1), .val (.int p1), .val (.int p2), .val (.int (((p1 + (1 : Int32)) + (1 : Int32)) + (1 : Int32))), .val (.int r2)] [(.int (XT.ushr r2 (7 : Int32)))])) _
          refine XS.istore X40.here hx rfl (hb hby d1_31) rfl (l' := #[.val (.ref a1), .val (.int p1), .val (.int p2), .val (.int (((p1 + (1 : Int32)) + (1 : Int32)) + (1 : Int32))), .val (.int (XT.ushr r2 (7 : Int32)))]) rfl ?_
          show Steps p.tables e below (T40.setTop (mkF m 33 #[.val (.ref a1), .val (.int p1), .val (.int p2), .val (.int (((p1 + (1 : Int32)) + (1 : Int32)) + (1 : Int32))), .val (.int (XT.ushr r2 (7 : Int32)))] [])) _
          refine XS.goto X40.here hx rfl (pc0 := 33) (pc' := 5) rfl (hb hby d1_33) (by decide) (by decide) ?_
          show Steps p.tables e below (T40.setTop (mkF m 5 #[.val (.ref a1), .val (.int p1), .val (.int p2), .val (.int (((p1 + (1 : Int32)) + (1 : Int32)) + (1 : Int32))), .val (.int (XT.ushr r2 (7 : Int32)))] [])) _
          exact k
        obtain ⟨r3, hn_r3, pre45⟩ : ∃ r3 : Int32, r3 = (XT.ushr r2 (7 : Int32)) ∧ ∀ t, Steps p.tables e below (T40.setTop (mkF m 5 #[.val (.ref a1), .val (.int p1), .val (.int p2), .val (.int (((p1 + (1 : Int32)) + (1 : Int32)) + (1 : Int32))), .val (.int r3)] [])) t → Steps p.tables e below (s₁.setTop (entryFrame m #[(.ref a1), (.int p1), (.int p2)] 5)) t := ⟨_, rfl, pre44⟩
        have u2 := own_sh r2
        rw [← hn_r3] at u2
        have hr3 : 0 ≤ r3.toInt := by omega
        have rg2 := rng32 r2
        have pre46 : ∀ t, Steps p.tables e below (T40.setTop (mkF m 10 #[.val (.ref a1), .val (.int p1), .val (.int p2), .val (.int (((p1 + (1 : Int32)) + (1 : Int32)) + (1 : Int32))), .val (.int r3)] [(.int (128 : Int32)), (.int r3)])) t → Steps p.tables e below (s₁.setTop (entryFrame m #[(.ref a1), (.int p1), (.int p2)] 5)) t := by
          intro t k
          refine pre45 t ?_
          refine XS.iload X40.here hx rfl (hb hby d1_5) rfl ?_
          show Steps p.tables e below (T40.setTop (mkF m 7 #[.val (.ref a1), .val (.int p1), .val (.int p2), .val (.int (((p1 + (1 : Int32)) + (1 : Int32)) + (1 : Int32))), .val (.int r3)] [(.int r3)])) _
          refine XS.sipush X40.here hx rfl (hb hby d1_7) ?_
          show Steps p.tables e below (T40.setTop (mkF m 10 #[.val (.ref a1), .val (.int p1), .val (.int p2), .val (.int (((p1 + (1 : Int32)) + (1 : Int32)) + (1 : Int32))), .val (.int r3)] [(.int (128 : Int32)), (.int r3)])) _
          exact k
        by_cases hs3 : r3 < (128 : Int32)
        · skip
          have pre47 : ∀ t, Steps p.tables e below (T40.setTop (mkF m 44 #[.val (.ref a1), .val (.int p1), .val (.int p2), .val (.int ((((p1 + (1 : Int32)) + (1 : Int32)) + (1 : Int32)) + (1 : Int32))), .val (.int r3)] [(.int (r3.toInt8.toInt32)), (.int (((p1 + (1 : Int32)) + (1 : Int32)) + (1 : Int32))), (.ref a1)])) t → Steps p.tables e below (s₁.setTop (entryFrame m #[(.ref a1), (.int p1), (.int p2)] 5)) t := by
            intro t k
            refine pre46 t ?_
            refine XS.icmpYes X40.here hx rfl (pc0 := 10) (pc' := 36) rfl (hb hby d1_10) rfl (XT.ii_lt_t hs3) (by decide) (by decide) ?_
            show Steps p.tables e below (T40.setTop (mkF m 36 #[.val (.ref a1), .val (.int p1), .val (.int p2), .val (.int (((p1 + (1 : Int32)) + (1 : Int32)) + (1 : Int32))), .val (.int r3)] [])) _
            refine XS.aloadN X40.here hx rfl (hb hby d1_36) rfl rfl ?_
            show Steps p.tables e below (T40.setTop (mkF m 37 #[.val (.ref a1), .val (.int p1), .val (.int p2), .val (.int (((p1 + (1 : Int32)) + (1 : Int32)) + (1 : Int32))), .val (.int r3)] [(.ref a1)])) _
            refine XS.iloadN X40.here hx rfl (hb hby d1_37) rfl ?_
            show Steps p.tables e below (T40.setTop (mkF m 38 #[.val (.ref a1), .val (.int p1), .val (.int p2), .val (.int (((p1 + (1 : Int32)) + (1 : Int32)) + (1 : Int32))), .val (.int r3)] [(.int (((p1 + (1 : Int32)) + (1 : Int32)) + (1 : Int32))), (.ref a1)])) _
            refine XS.iinc X40.here hx rfl (hb hby d1_38) rfl (l' := #[.val (.ref a1), .val (.int p1), .val (.int p2), .val (.int ((((p1 + (1 : Int32)) + (1 : Int32)) + (1 : Int32)) + (1 : Int32))), .val (.int r3)]) rfl ?_
            show Steps p.tables e below (T40.setTop (mkF m 41 #[.val (.ref a1), .val (.int p1), .val (.int p2), .val (.int ((((p1 + (1 : Int32)) + (1 : Int32)) + (1 : Int32)) + (1 : Int32))), .val (.int r3)] [(.int (((p1 + (1 : Int32)) + (1 : Int32)) + (1 : Int32))), (.ref a1)])) _
            refine XS.iload X40.here hx rfl (hb hby d1_41) rfl ?_
            show Steps p.tables e below (T40.setTop (mkF m 43 #[.val (.ref a1), .val (.int p1), .val (.int p2), .val (.int ((((p1 + (1 : Int32)) + (1 : Int32)) + (1 : Int32)) + (1 : Int32))), .val (.int r3)] [(.int r3), (.int (((p1 + (1 : Int32)) + (1 : Int32)) + (1 : Int32))), (.ref a1)])) _
            refine XT.i2b X40.here hx rfl (hb hby d1_43) rfl ?_
            show Steps p.tables e below (T40.setTop (mkF m 44 #[.val (.ref a1), .val (.int p1), .val (.int p2), .val (.int ((((p1 + (1 : Int32)) + (1 : Int32)) + (1 : Int32)) + (1 : Int32))), .val (.int r3)] [(.int (r3.toInt8.toInt32)), (.int (((p1 + (1 : Int32)) + (1 : Int32)) + (1 : Int32))), (.ref a1)])) _
            exact k
          obtain ⟨cc48, Ar48, q1_48, Sz48, q3_48, Hs48, G48⟩ := id V40
          have hin48 : ¬ ((((p1 + (1 : Int32)) + (1 : Int32)) + (1 : Int32)) < 0 ∨ cc48.slots.size ≤ ((((p1 + (1 : Int32)) + (1 : Int32)) + (1 : Int32)) : Int32).toNatClampNeg) := inb_of Sz48 ha3
          obtain ⟨T48, h48, X48, e48, W48, st48⟩ := stB X40 hx hZ e40 Ar48 hin48 (g := (mkF m 44 #[.val (.ref a1), .val (.int p1), .val (.int p2), .val (.int ((((p1 + (1 : Int32)) + (1 : Int32)) + (1 : Int32)) + (1 : Int32))), .val (.int r3)] [(.int (r3.toInt8.toInt32)), (.int (((p1 + (1 : Int32)) + (1 : Int32)) + (1 : Int32))), (.ref a1)])) rfl rfl (hb hby d1_44)
          have N48 := Fr.snoc X48 N40 ga1
          have V48 : Arv Z h48 a1 kk .byte (9 : Int32) ((((vs.set ix (.int (nar .byte ((p2 ||| (128 : Int32)).toInt8.toInt32)))).set (ix + 1) (.int (nar .byte ((r1 ||| (128 : Int32)).toInt8.toInt32)))).set ((ix + 1) + 1) (.int (nar .byte ((r2 ||| (128 : Int32)).toInt8.toInt32)))).set (((ix + 1) + 1) + 1) (.int (nar .byte (r3.toInt8.toInt32)))) (.int (0 : Int32)) := Arv.set Ar48 q1_48 Sz48 q3_48 Hs48 G48 (fits_nar_byte _) W48 (((ix + 1) + 1) + 1) i3 (by simp only [List.length_set, hl]; exact l3)
          have pre50 : ∀ t, Steps p.tables e below (T48.setTop (mkF m 45 #[.val (.ref a1), .val (.int p1), .val (.int p2), .val (.int ((((p1 + (1 : Int32)) + (1 : Int32)) + (1 : Int32)) + (1 : Int32))), .val (.int r3)] [])) t → Steps p.tables e below (s₁.setTop (entryFrame m #[(.ref a1), (.int p1), (.int p2)] 5)) t := fun t k => pre47 t (st48 t k)
          have K51 : Keep h0 h48 [a1] := (K43.wr W48 (Or.inl (List.mem_of_getElem? (i := 0) rfl)))
          have Z51 : n0 ≤ h48.size := (Nat.le_trans Z43 (Nat.le_of_eq W48.size.symm))
          have pre52 : ∀ t, Steps p.tables e below (T48.setTop (mkF m 46 #[.val (.ref a1), .val (.int p1), .val (.int p2), .val (.int ((((p1 + (1 : Int32)) + (1 : Int32)) + (1 : Int32)) + (1 : Int32))), .val (.int r3)] [(.int ((((p1 + (1 : Int32)) + (1 : Int32)) + (1 : Int32)) + (1 : Int32)))])) t → Steps p.tables e below (s₁.setTop (entryFrame m #[(.ref a1), (.int p1), (.int p2)] 5)) t := by
            intro t k
            refine pre50 t ?_
            refine XS.iloadN X48.here hx rfl (hb hby d1_45) rfl ?_
            show Steps p.tables e below (T48.setTop (mkF m 46 #[.val (.ref a1), .val (.int p1), .val (.int p2), .val (.int ((((p1 + (1 : Int32)) + (1 : Int32)) + (1 : Int32)) + (1 : Int32))), .val (.int r3)] [(.int ((((p1 + (1 : Int32)) + (1 : Int32)) + (1 : Int32)) + (1 : Int32)))])) _
            exact k
          obtain ⟨fs, hr, hrun, hended, hW, hsame⟩ := X48.leave (v := some (.int ((((p1 + (1 : Int32)) + (1 : Int32)) + (1 : Int32)) + (1 : Int32)))) (fun h => by rw [Bd.returns] at h; cases h)
          refine ⟨_, _, pre52 _ ?_, hrun, hended, _, _, rfl, ?_, ⟨_, rfl⟩, hW, hsame.mono (by decide) (by decide)⟩
          · exact retOut X48 hx Bd.returns rfl (Or.inl ⟨rfl, by simp, _, rfl⟩) (hb hby d1_46) hr
          · show Q1 Z a1 p1 p2 kk vs ix h0 n0 _ T48.heap _
            rw [e48]
            exact ⟨(by rw [own_pl_s hs0, ← hn_r1, own_pl_s hs1, ← hn_r2, own_pl_s hs2, ← hn_r3, own_pl_z hs3]), N48, K51, (by rw [own_pl_s hs0, ← hn_r1, own_pl_s hs1, ← hn_r2, own_pl_s hs2, ← hn_r3, own_pl_z hs3]; exact V48)⟩
        · skip
          have pre54 : ∀ t, Steps p.tables e below (T40.setTop (mkF m 25 #[.val (.ref a1), .val (.int p1), .val (.int p2), .val (.int ((((p1 + (1 : Int32)) + (1 : Int32)) + (1 : Int32)) + (1 : Int32))), .val (.int r3)] [(.int ((r3 ||| (128 : Int32)).toInt8.toInt32)), (.int (((p1 + (1 : Int32)) + (1 : Int32)) + (1 : Int32))), (.ref a1)])) t → Steps p.tables e below (s₁.setTop (entryFrame m #[(.ref a1), (.int p1), (.int p2)] 5)) t := by
            intro t k
            refine pre46 t ?_
            refine XS.icmpNo X40.here hx rfl (hb hby d1_10) rfl (XT.ii_lt_f hs3) ?_
            show Steps p.tables e below (T40.setTop (mkF m 13 #[.val (.ref a1), .val (.int p1), .val (.int p2), .val (.int (((p1 + (1 : Int32)) + (1 : Int32)) + (1 : Int32))), .val (.int r3)] [])) _
            refine XS.aloadN X40.here hx rfl (hb hby d1_13) rfl rfl ?_
            show Steps p.tables e below (T40.setTop (mkF m 14 #[.val (.ref a1), .val (.int p1), .val (.int p2), .val (.int (((p1 + (1 : Int32)) + (1 : Int32)) + (1 : Int32))), .val (.int r3)] [(.ref a1)])) _
            refine XS.iloadN X40.here hx rfl (hb hby d1_14) rfl ?_
            show Steps p.tables e below (T40.setTop (mkF m 15 #[.val (.ref a1), .val (.int p1), .val (.int p2), .val (.int (((p1 + (1 : Int32)) + (1 : Int32)) + (1 : Int32))), .val (.int r3)] [(.int (((p1 + (1 : Int32)) + (1 : Int32)) + (1 : Int32))), (.ref a1)])) _
            refine XS.iinc X40.here hx rfl (hb hby d1_15) rfl (l' := #[.val (.ref a1), .val (.int p1), .val (.int p2), .val (.int ((((p1 + (1 : Int32)) + (1 : Int32)) + (1 : Int32)) + (1 : Int32))), .val (.int r3)]) rfl ?_
            show Steps p.tables e below (T40.setTop (mkF m 18 #[.val (.ref a1), .val (.int p1), .val (.int p2), .val (.int ((((p1 + (1 : Int32)) + (1 : Int32)) + (1 : Int32)) + (1 : Int32))), .val (.int r3)] [(.int (((p1 + (1 : Int32)) + (1 : Int32)) + (1 : Int32))), (.ref a1)])) _
            refine XS.iload X40.here hx rfl (hb hby d1_18) rfl ?_
            show Steps p.tables e below (T40.setTop (mkF m 20 #[.val (.ref a1), .val (.int p1), .val (.int p2), .val (.int ((((p1 + (1 : Int32)) + (1 : Int32)) + (1 : Int32)) + (1 : Int32))), .val (.int r3)] [(.int r3), (.int (((p1 + (1 : Int32)) + (1 : Int32)) + (1 : Int32))), (.ref a1)])) _
            refine XS.sipush X40.here hx rfl (hb hby d1_20) ?_
            show Steps p.tables e below (T40.setTop (mkF m 23 #[.val (.ref a1), .val (.int p1), .val (.int p2), .val (.int ((((p1 + (1 : Int32)) + (1 : Int32)) + (1 : Int32)) + (1 : Int32))), .val (.int r3)] [(.int (128 : Int32)), (.int r3), (.int (((p1 + (1 : Int32)) + (1 : Int32)) + (1 : Int32))), (.ref a1)])) _
            refine XT.ior X40.here hx rfl (hb hby d1_23) rfl ?_
            show Steps p.tables e below (T40.setTop (mkF m 24 #[.val (.ref a1), .val (.int p1), .val (.int p2), .val (.int ((((p1 + (1 : Int32)) + (1 : Int32)) + (1 : Int32)) + (1 : Int32))), .val (.int r3)] [(.int (r3 ||| (128 : Int32))), (.int (((p1 + (1 : Int32)) + (1 : Int32)) + (1 : Int32))), (.ref a1)])) _
            refine XT.i2b X40.here hx rfl (hb hby d1_24) rfl ?_
            show Steps p.tables e below (T40.setTop (mkF m 25 #[.val (.ref a1), .val (.int p1), .val (.int p2), .val (.int ((((p1 + (1 : Int32)) + (1 : Int32)) + (1 : Int32)) + (1 : Int32))), .val (.int r3)] [(.int ((r3 ||| (128 : Int32)).toInt8.toInt32)), (.int (((p1 + (1 : Int32)) + (1 : Int32)) + (1 : Int32))), (.ref a1)])) _
            exact k
          obtain ⟨cc55, Ar55, q1_55, Sz55, q3_55, Hs55, G55⟩ := id V40
          have hin55 : ¬ ((((p1 + (1 : Int32)) + (1 : Int32)) + (1 : Int32)) < 0 ∨ cc55.slots.size ≤ ((((p1 + (1 : Int32)) + (1 : Int32)) + (1 : Int32)) : Int32).toNatClampNeg) := inb_of Sz55 ha3
          obtain ⟨T55, h55, X55, e55, W55, st55⟩ := stB X40 hx hZ e40 Ar55 hin55 (g := (mkF m 25 #[.val (.ref a1), .val (.int p1), .val (.int p2), .val (.int ((((p1 + (1 : Int32)) + (1 : Int32)) + (1 : Int32)) + (1 : Int32))), .val (.int r3)] [(.int ((r3 ||| (128 : Int32)).toInt8.toInt32)), (.int (((p1 + (1 : Int32)) + (1 : Int32)) + (1 : Int32))), (.ref a1)])) rfl rfl (hb hby d1_25)
          have N55 := Fr.snoc X55 N40 ga1
          have V55 : Arv Z h55 a1 kk .byte (9 : Int32) ((((vs.set ix (.int (nar .byte ((p2 ||| (128 : Int32)).toInt8.toInt32)))).set (ix + 1) (.int (nar .byte ((r1 ||| (128 : Int32)).toInt8.toInt32)))).set ((ix + 1) + 1) (.int (nar .byte ((r2 ||| (128 : Int32)).toInt8.toInt32)))).set (((ix + 1) + 1) + 1) (.int (nar .byte ((r3 ||| (128 : Int32)).toInt8.toInt32)))) (.int (0 : Int32)) := Arv.set Ar55 q1_55 Sz55 q3_55 Hs55 G55 (fits_nar_byte _) W55 (((ix + 1) + 1) + 1) i3 (by simp only [List.length_set, hl]; exact l3)
          have pre57 : ∀ t, Steps p.tables e below (T55.setTop (mkF m 26 #[.val (.ref a1), .val (.int p1), .val (.int p2), .val (.int ((((p1 + (1 : Int32)) + (1 : Int32)) + (1 : Int32)) + (1 : Int32))), .val (.int r3)] [])) t → Steps p.tables e below (s₁.setTop (entryFrame m #[(.ref a1), (.int p1), (.int p2)] 5)) t := fun t k => pre54 t (st55 t k)
          have K58 : Keep h0 h55 [a1] := (K43.wr W55 (Or.inl (List.mem_of_getElem? (i := 0) rfl)))
          have Z58 : n0 ≤ h55.size := (Nat.le_trans Z43 (Nat.le_of_eq W55.size.symm))
          have pre59 : ∀ t, Steps p.tables e below (T55.setTop (mkF m 5 #[.val (.ref a1), .val (.int p1), .val (.int p2), .val (.int ((((p1 + (1 : Int32)) + (1 : Int32)) + (1 : Int32)) + (1 : Int32))), .val (.int (XT.ushr r3 (7 : Int32)))] [])) t → Steps p.tables e below (s₁.setTop (entryFrame m #[(.ref a1), (.int p1), (.int p2)] 5)) t := by
            intro t k
            refine pre57 t ?_
            refine XS.iload X55.here hx rfl (hb hby d1_26) rfl ?_
            show Steps p.tables e below (T55.setTop (mkF m 28 #[.val (.ref a1), .val (.int p1), .val (.int p2), .val (.int ((((p1 + (1 : Int32)) + (1 : Int32)) + (1 : Int32)) + (1 : Int32))), .val (.int r3)] [(.int r3)])) _
            refine XS.bipush X55.here hx rfl (hb hby d1_28) ?_
            show Steps p.tables e below (T55.setTop (mkF m 30 #[.val (.ref a1), .val (.int p1), .val (.int p2), .val (.int ((((p1 + (1 : Int32)) + (1 : Int32)) + (1 : Int32)) + (1 : Int32))), .val (.int r3)] [(.int (7 : Int32)), (.int r3)])) _
            refine XT.iushr X55.here hx rfl (hb hby d1_30) rfl ?_
            show Steps p.tables e below (T55.setTop (mkF m 31 #[.val (.ref a1), .val (.int p1), .val (.int p2), .val (.int ((((p1 + (1 : Int32)) + (1 : Int32)) + (1 : Int32)) + (1 : Int32))), .val (.int r3)] [(.int (XT.ushr r3 (7 : Int32)))])) _
            refine XS.istore X55.here hx rfl (hb hby d1_31) rfl (l' := #[.val (.ref a1), .val (.int p1), .val (.int p2), .val (.int ((((p1 + (1 : Int32)) + (1 : Int32)) + (1 : Int32)) + (1 : Int32))), .val (.int (XT.ushr r3 (7 : Int32)))]) rfl ?_
            show Steps p.tables e below (T55.setTop (mkF m 33 #[.val (.ref a1), .val (.int p1), .val (.int p2), .val (.int ((((p1 + (1 : Int32)) + (1 : Int32)) + (1 : Int32)) + (1 : Int32))), .val (.int (XT.ushr r3 (7 : Int32)))] [])) _
            refine XS.goto X55.here hx rfl (pc0 := 33) (pc' := 5) rfl (hb hby d1_33) (by decide) (by decide) ?_
            show Steps p.tables e below (T55.setTop (mkF m 5 #[.val (.ref a1), .val (.int p1), .val (.int p2), .val (.int ((((p1 + (1 : Int32)) + (1 : Int32)) + (1 : Int32)) + (1 : Int32))), .val (.int (XT.ushr r3 (7 : Int32)))] [])) _
            exact k
          obtain ⟨r4, hn_r4, pre60⟩ : ∃ r4 : Int32, r4 = (XT.ushr r3 (7 : Int32)) ∧ ∀ t, Steps p.tables e below (T55.setTop (mkF m 5 #[.val (.ref a1), .val (.int p1), .val (.int p2), .val (.int ((((p1 + (1 : Int32)) + (1 : Int32)) + (1 : Int32)) + (1 : Int32))), .val (.int r4)] [])) t → Steps p.tables e below (s₁.setTop (entryFrame m #[(.ref a1), (.int p1), (.int p2)] 5)) t := ⟨_, rfl, pre59⟩
          have u3 := own_sh r3
          rw [← hn_r4] at u3
          have hr4 : 0 ≤ r4.toInt := by omega
          have rg3 := rng32 r3
          have hlast : r4 < 128 := by rw [own_lt128]; omega
          have pre61 : ∀ t, Steps p.tables e below (T55.setTop (mkF m 44 #[.val (.ref a1), .val (.int p1), .val (.int p2), .val (.int (((((p1 + (1 : Int32)) + (1 : Int32)) + (1 : Int32)) + (1 : Int32)) + (1 : Int32))), .val (.int r4)] [(.int (r4.toInt8.toInt32)), (.int ((((p1 + (1 : Int32)) + (1 : Int32)) + (1 : Int32)) + (1 : Int32))), (.ref a1)])) t → Steps p.tables e below (s₁.setTop (entryFrame m #[(.ref a1), (.int p1), (.int p2)] 5)) t := by
            intro t k
            refine pre60 t ?_
            refine XS.iload X55.here hx rfl (hb hby d1_5) rfl ?_
            show Steps p.tables e below (T55.setTop (mkF m 7 #[.val (.ref a1), .val (.int p1), .val (.int p2), .val (.int ((((p1 + (1 : Int32)) + (1 : Int32)) + (1 : Int32)) + (1 : Int32))), .val (.int r4)] [(.int r4)])) _
            refine XS.sipush X55.here hx rfl (hb hby d1_7) ?_
            show Steps p.tables e below (T55.setTop (mkF m 10 #[.val (.ref a1), .val (.int p1), .val (.int p2), .val (.int ((((p1 + (1 : Int32)) + (1 : Int32)) + (1 : Int32)) + (1 : Int32))), .val (.int r4)] [(.int (128 : Int32)), (.int r4)])) _
            refine XS.icmpYes X55.here hx rfl (pc0 := 10) (pc' := 36) rfl (hb hby d1_10) rfl (XT.ii_lt_t hlast) (by decide) (by decide) ?_
            show Steps p.tables e below (T55.setTop (mkF m 36 #[.val (.ref a1), .val (.int p1), .val (.int p2), .val (.int ((((p1 + (1 : Int32)) + (1 : Int32)) + (1 : Int32)) + (1 : Int32))), .val (.int r4)] [])) _
            refine XS.aloadN X55.here hx rfl (hb hby d1_36) rfl rfl ?_
            show Steps p.tables e below (T55.setTop (mkF m 37 #[.val (.ref a1), .val (.int p1), .val (.int p2), .val (.int ((((p1 + (1 : Int32)) + (1 : Int32)) + (1 : Int32)) + (1 : Int32))), .val (.int r4)] [(.ref a1)])) _
            refine XS.iloadN X55.here hx rfl (hb hby d1_37) rfl ?_
            show Steps p.tables e below (T55.setTop (mkF m 38 #[.val (.ref a1), .val (.int p1), .val (.int p2), .val (.int ((((p1 + (1 : Int32)) + (1 : Int32)) + (1 : Int32)) + (1 : Int32))), .val (.int r4)] [(.int ((((p1 + (1 : Int32)) + (1 : Int32)) + (1 : Int32)) + (1 : Int32))), (.ref a1)])) _
            refine XS.iinc X55.here hx rfl (hb hby d1_38) rfl (l' := #[.val (.ref a1), .val (.int p1), .val (.int p2), .val (.int (((((p1 + (1 : Int32)) + (1 : Int32)) + (1 : Int32)) + (1 : Int32)) + (1 : Int32))), .val (.int r4)]) rfl ?_
            show Steps p.tables e below (T55.setTop (mkF m 41 #[.val (.ref a1), .val (.int p1), .val (.int p2), .val (.int (((((p1 + (1 : Int32)) + (1 : Int32)) + (1 : Int32)) + (1 : Int32)) + (1 : Int32))), .val (.int r4)] [(.int ((((p1 + (1 : Int32)) + (1 : Int32)) + (1 : Int32)) + (1 : Int32))), (.ref a1)])) _
            refine XS.iload X55.here hx rfl (hb hby d1_41) rfl ?_
            show Steps p.tables e below (T55.setTop (mkF m 43 #[.val (.ref a1), .val (.int p1), .val (.int p2), .val (.int (((((p1 + (1 : Int32)) + (1 : Int32)) + (1 : Int32)) + (1 : Int32)) + (1 : Int32))), .val (.int r4)] [(.int r4), (.int ((((p1 + (1 : Int32)) + (1 : Int32)) + (1 : Int32)) + (1 : Int32))), (.ref a1)])) _
            refine XT.i2b X55.here hx rfl (hb hby d1_43) rfl ?_
            show Steps p.tables e below (T55.setTop (mkF m 44 #[.val (.ref a1), .val (.int p1), .val (.int p2), .val (.int (((((p1 + (1 : Int32)) + (1 : Int32)) + (1 : Int32)) + (1 : Int32)) + (1 : Int32))), .val (.int r4)] [(.int (r4.toInt8.toInt32)), (.int ((((p1 + (1 : Int32)) + (1 : Int32)) + (1 : Int32)) + (1 : Int32))), (.ref a1)])) _
            exact k
          obtain ⟨cc62, Ar62, q1_62, Sz62, q3_62, Hs62, G62⟩ := id V55
          have hin62 : ¬ (((((p1 + (1 : Int32)) + (1 : Int32)) + (1 : Int32)) + (1 : Int32)) < 0 ∨ cc62.slots.size ≤ (((((p1 + (1 : Int32)) + (1 : Int32)) + (1 : Int32)) + (1 : Int32)) : Int32).toNatClampNeg) := inb_of Sz62 ha4
          obtain ⟨T62, h62, X62, e62, W62, st62⟩ := stB X55 hx hZ e55 Ar62 hin62 (g := (mkF m 44 #[.val (.ref a1), .val (.int p1), .val (.int p2), .val (.int (((((p1 + (1 : Int32)) + (1 : Int32)) + (1 : Int32)) + (1 : Int32)) + (1 : Int32))), .val (.int r4)] [(.int (r4.toInt8.toInt32)), (.int ((((p1 + (1 : Int32)) + (1 : Int32)) + (1 : Int32)) + (1 : Int32))), (.ref a1)])) rfl rfl (hb hby d1_44)
          have N62 := Fr.snoc X62 N55 ga1
          have V62 : Arv Z h62 a1 kk .byte (9 : Int32) (((((vs.set ix (.int (nar .byte ((p2 ||| (128 : Int32)).toInt8.toInt32)))).set (ix + 1) (.int (nar .byte ((r1 ||| (128 : Int32)).toInt8.toInt32)))).set ((ix + 1) + 1) (.int (nar .byte ((r2 ||| (128 : Int32)).toInt8.toInt32)))).set (((ix + 1) + 1) + 1) (.int (nar .byte ((r3 ||| (128 : Int32)).toInt8.toInt32)))).set ((((ix + 1) + 1) + 1) + 1) (.int (nar .byte (r4.toInt8.toInt32)))) (.int (0 : Int32)) := Arv.set Ar62 q1_62 Sz62 q3_62 Hs62 G62 (fits_nar_byte _) W62 ((((ix + 1) + 1) + 1) + 1) i4 (by simp only [List.length_set, hl]; exact l4)
          have pre64 : ∀ t, Steps p.tables e below (T62.setTop (mkF m 45 #[.val (.ref a1), .val (.int p1), .val (.int p2), .val (.int (((((p1 + (1 : Int32)) + (1 : Int32)) + (1 : Int32)) + (1 : Int32)) + (1 : Int32))), .val (.int r4)] [])) t → Steps p.tables e below (s₁.setTop (entryFrame m #[(.ref a1), (.int p1), (.int p2)] 5)) t := fun t k => pre61 t (st62 t k)
          have K65 : Keep h0 h62 [a1] := (K58.wr W62 (Or.inl (List.mem_of_getElem? (i := 0) rfl)))
          have Z65 : n0 ≤ h62.size := (Nat.le_trans Z58 (Nat.le_of_eq W62.size.symm))
          have pre66 : ∀ t, Steps p.tables e below (T62.setTop (mkF m 46 #[.val (.ref a1), .val (.int p1), .val (.int p2), .val (.int (((((p1 + (1 : Int32)) + (1 : Int32)) + (1 : Int32)) + (1 : Int32)) + (1 : Int32))), .val (.int r4)] [(.int (((((p1 + (1 : Int32)) + (1 : Int32)) + (1 : Int32)) + (1 : Int32)) + (1 : Int32)))])) t → Steps p.tables e below (s₁.setTop (entryFrame m #[(.ref a1), (.int p1), (.int p2)] 5)) t := by
            intro t k
            refine pre64 t ?_
            refine XS.iloadN X62.here hx rfl (hb hby d1_45) rfl ?_
            show Steps p.tables e below (T62.setTop (mkF m 46 #[.val (.ref a1), .val (.int p1), .val (.int p2), .val (.int (((((p1 + (1 : Int32)) + (1 : Int32)) + (1 : Int32)) + (1 : Int32)) + (1 : Int32))), .val (.int r4)] [(.int (((((p1 + (1 : Int32)) + (1 : Int32)) + (1 : Int32)) + (1 : Int32)) + (1 : Int32)))])) _
            exact k
          obtain ⟨fs, hr, hrun, hended, hW, hsame⟩ := X62.leave (v := some (.int (((((p1 + (1 : Int32)) + (1 : Int32)) + (1 : Int32)) + (1 : Int32)) + (1 : Int32)))) (fun h => by rw [Bd.returns] at h; cases h)
          refine ⟨_, _, pre66 _ ?_, hrun, hended, _, _, rfl, ?_, ⟨_, rfl⟩, hW, hsame.mono (by decide) (by decide)⟩
          · exact retOut X62 hx Bd.returns rfl (Or.inl ⟨rfl, by simp, _, rfl⟩) (hb hby d1_46) hr
          · show Q1 Z a1 p1 p2 kk vs ix h0 n0 _ T62.heap _
            rw [e62]
            exact ⟨(by rw [own_pl_s hs0, ← hn_r1, own_pl_s hs1, ← hn_r2, own_pl_s hs2, ← hn_r3, own_pl_s hs3, ← hn_r4, own_pl_z hlast]), N62, K65, (by rw [own_pl_s hs0, ← hn_r1, own_pl_s hs1, ← hn_r2, own_pl_s hs2, ← hn_r3, own_pl_s hs3, ← hn_r4, own_pl_z hlast]; exact V62)⟩
theorem pn_2 : plainName "com/example/sluice/sluice/state/SnapshotOutputPutLengthPinLaw" = true := by first | (simp [plainName, overriddenIn]; done) | decide +kernel
theorem d2_0 : decode method_3_code 0 = .ok (.iconst 1, 1) := by decide +kernel
theorem d2_1 : decode method_3_code 1 = .ok (.istore_n 1, 1) := by decide +kernel
theorem d2_2 : decode method_3_code 2 = .ok (.iload_n 0, 1) := by decide +kernel
theorem d2_3 : decode method_3_code 3 = .ok (.sipush 128, 3) := by decide +kernel
theorem d2_6 : decode method_3_code 6 = .ok (.if_icmp .lt 7, 3) := by decide +kernel
theorem d2_9 : decode method_3_code 9 = .ok (.iload_n 1, 1) := by decide +kernel
theorem d2_10 : decode method_3_code 10 = .ok (.iconst 1, 1) := by decide +kernel
theorem d2_11 : decode method_3_code 11 = .ok (.iadd, 1) := by decide +kernel
theorem d2_12 : decode method_3_code 12 = .ok (.istore_n 1, 1) := by decide +kernel
theorem d2_13 : decode method_3_code 13 = .ok (.iload_n 0, 1) := by decide +kernel
theorem d2_14 : decode method_3_code 14 = .ok (.sipush 16384, 3) := by decide +kernel
theorem d2_17 : decode method_3_code 17 = .ok (.if_icmp .lt 7, 3) := by decide +kernel
theorem d2_20 : decode method_3_code 20 = .ok (.iload_n 1, 1) := by decide +kernel
theorem d2_21 : decode method_3_code 21 = .ok (.iconst 1, 1) := by decide +kernel
theorem d2_22 : decode method_3_code 22 = .ok (.iadd, 1) := by decide +kernel
theorem d2_23 : decode method_3_code 23 = .ok (.istore_n 1, 1) := by decide +kernel
theorem d2_24 : decode method_3_code 24 = .ok (.iload_n 0, 1) := by decide +kernel
theorem d2_25 : decode method_3_code 25 = .ok (.ldc 24, 2) := by decide +kernel
theorem d2_27 : decode method_3_code 27 = .ok (.if_icmp .lt 7, 3) := by decide +kernel
theorem d2_30 : decode method_3_code 30 = .ok (.iload_n 1, 1) := by decide +kernel
theorem d2_31 : decode method_3_code 31 = .ok (.iconst 1, 1) := by decide +kernel
theorem d2_32 : decode method_3_code 32 = .ok (.iadd, 1) := by decide +kernel
theorem d2_33 : decode method_3_code 33 = .ok (.istore_n 1, 1) := by decide +kernel
theorem d2_34 : decode method_3_code 34 = .ok (.iload_n 0, 1) := by decide +kernel
theorem d2_35 : decode method_3_code 35 = .ok (.ldc 25, 2) := by decide +kernel
theorem d2_37 : decode method_3_code 37 = .ok (.if_icmp .lt 7, 3) := by decide +kernel
theorem d2_40 : decode method_3_code 40 = .ok (.iload_n 1, 1) := by decide +kernel
theorem d2_41 : decode method_3_code 41 = .ok (.iconst 1, 1) := by decide +kernel
theorem d2_42 : decode method_3_code 42 = .ok (.iadd, 1) := by decide +kernel
theorem d2_43 : decode method_3_code 43 = .ok (.istore_n 1, 1) := by decide +kernel
theorem d2_44 : decode method_3_code 44 = .ok (.iload_n 1, 1) := by decide +kernel
theorem d2_45 : decode method_3_code 45 = .ok (.ireturn, 1) := by decide +kernel
theorem ef_2 (m : MethodId) (p1 : Int32) : entryFrame m #[(.int p1)] 2 = mkF m 0 #[.val (.int p1), .unset] [] := by first | (simp [entryFrame, mkF, argsToLocals, Value.category]; done) | rfl
def Q2 (Z : State) (p1 : Int32) (h0 : Heap) (n0 : Nat) (v : Option Value) (h : Heap) (L : List Loc) : Prop := v = some (.int (own_cnt p1)) ∧ Fr n0 L ∧ h = h0
set_option maxRecDepth 65536 in
set_option maxHeartbeats 40000000 in
theorem rm2 (l : Launch) (Z : State) (a0 : Array Value) (hw : ∀ d ∈ tables_1, d.before a0 Z = true) (ws : List Jvm.Cond) (p1 : Int32) (h0 : Heap) (n0 : Nat) (Z0 : n0 ≤ h0.size) :
    MetFree l (⟨"com/example/sluice/sluice/state/SnapshotOutputPutLengthPinLaw", "count", "(I)I"⟩ : MethodName) (head1 (Jvm.Cond.code (⟨"com/example/sluice/sluice/state/SnapshotOutputPutLengthPinLaw", "count", "(I)I"⟩ : MethodName) method_3_code 2 (some .int) :: ws) ({ frames := 0, cells := 0, slots := 0, locals := 0 } : Room)) (fun a U => a = #[(.int p1)] ∧ Z.Warmed39 U.vm ∧ U.heap = h0) (fun _ _ _ _ _ => True) (fun _ U o U' => ∃ v L, o = .returned v ∧ Q2 Z p1 h0 n0 v U'.heap L ∧ FrameEnd U o U' L ({ frames := 0, cells := 0, slots := 0, locals := 0 } : Room).cells ({ frames := 0, cells := 0, slots := 0, locals := 0 } : Room).slots) := by
  refine MetFree.of_bodySF (plainFor_of_name pn_2) hisR ?_
  intro p e s m args below meth c s₁ Bd hml0 hP hK
  obtain ⟨rfl, hZ, hh⟩ := hP
  have hx := Bd.exec
  have hby := Bd.bytes
  have hml : c.maxLocals = 2 := hml0
  have hown : s.vm.findClass "com/example/sluice/sluice/state/SnapshotOutputPutLengthPinLaw" = some m.cls := findClass_of_methodNamed Bd.named
  have hnm := (name_of_methodNamed Bd.named Bd.method).1
  have X0 : Stand p l e ({ frames := 0, cells := 0, slots := 0, locals := 0 } : Room) s m #[(.int p1)] below meth c s₁ [] 0 0 := Stand.of_body Bd
  have e0 : s₁.heap = h0 := by rw [← hh, Bd.state]; rfl
  have N0 := Fr.nil n0
  have pre0 : ∀ t, Steps p.tables e below (s₁.setTop (mkF m 0 #[.val (.int p1), .unset] [])) t → Steps p.tables e below (s₁.setTop (entryFrame m #[(.int p1)] 2)) t := fun t k => castTop (ef_2 m p1) k
  have pre1 : ∀ t, Steps p.tables e below (s₁.setTop (mkF m 2 #[.val (.int p1), .val (.int (1 : Int32))] [])) t → Steps p.tables e below (s₁.setTop (entryFrame m #[(.int p1)] 2)) t := by
    intro t k
    refine pre0 t ?_
    refine XS.iconst X0.here hx rfl (hb hby d2_0) ?_
    show Steps p.tables e below (s₁.setTop (mkF m 1 #[.val (.int p1), .unset] [(.int (1 : Int32))])) _
    refine XS.istoreN X0.here hx rfl (hb hby d2_1) rfl (l' := #[.val (.int p1), .val (.int (1 : Int32))]) rfl ?_
    show Steps p.tables e below (s₁.setTop (mkF m 2 #[.val (.int p1), .val (.int (1 : Int32))] [])) _
    exact k
  have mrg2 : ∃ (m0 : Int32) (T2 : State) (Lo2 : List Loc), Stand p l e ({ frames := 0, cells := 0, slots := 0, locals := 0 } : Room) s m #[(.int p1)] below meth c T2 Lo2 0 0 ∧ Fr n0 Lo2 ∧ T2.heap = h0 ∧ (m0 = (1 : Int32) + own_bi (¬ p1 < 128)) ∧ ∀ t, Steps p.tables e below (T2.setTop (mkF m 13 #[.val (.int p1), .val (.int m0)] [])) t → Steps p.tables e below (s₁.setTop (entryFrame m #[(.int p1)] 2)) t := by
    have pre3 : ∀ t, Steps p.tables e below (s₁.setTop (mkF m 6 #[.val (.int p1), .val (.int (1 : Int32))] [(.int (128 : Int32)), (.int p1)])) t → Steps p.tables e below (s₁.setTop (entryFrame m #[(.int p1)] 2)) t := by
      intro t k
      refine pre1 t ?_
      refine XS.iloadN X0.here hx rfl (hb hby d2_2) rfl ?_
      show Steps p.tables e below (s₁.setTop (mkF m 3 #[.val (.int p1), .val (.int (1 : Int32))] [(.int p1)])) _
      refine XS.sipush X0.here hx rfl (hb hby d2_3) ?_
      show Steps p.tables e below (s₁.setTop (mkF m 6 #[.val (.int p1), .val (.int (1 : Int32))] [(.int (128 : Int32)), (.int p1)])) _
      exact k
    by_cases hc6 : p1 < (128 : Int32)
    · skip
      have pre4 : ∀ t, Steps p.tables e below (s₁.setTop (mkF m 13 #[.val (.int p1), .val (.int (1 : Int32))] [])) t → Steps p.tables e below (s₁.setTop (entryFrame m #[(.int p1)] 2)) t := by
        intro t k
        refine pre3 t ?_
        refine XS.icmpYes X0.here hx rfl (pc0 := 6) (pc' := 13) rfl (hb hby d2_6) rfl (XT.ii_lt_t hc6) (by decide) (by decide) ?_
        show Steps p.tables e below (s₁.setTop (mkF m 13 #[.val (.int p1), .val (.int (1 : Int32))] [])) _
        exact k
      exact ⟨(1 : Int32), _, _, X0, N0, e0, (by first | exact (own_bi_t hc6).symm | exact (own_bi_f hc6).symm | (simp [own_bi, hc6]; done) | contradiction), pre4⟩
    · skip
      have pre5 : ∀ t, Steps p.tables e below (s₁.setTop (mkF m 13 #[.val (.int p1), .val (.int ((1 : Int32) + (1 : Int32)))] [])) t → Steps p.tables e below (s₁.setTop (entryFrame m #[(.int p1)] 2)) t := by
        intro t k
        refine pre3 t ?_
        refine XS.icmpNo X0.here hx rfl (hb hby d2_6) rfl (XT.ii_lt_f hc6) ?_
        show Steps p.tables e below (s₁.setTop (mkF m 9 #[.val (.int p1), .val (.int (1 : Int32))] [])) _
        refine XS.iloadN X0.here hx rfl (hb hby d2_9) rfl ?_
        show Steps p.tables e below (s₁.setTop (mkF m 10 #[.val (.int p1), .val (.int (1 : Int32))] [(.int (1 : Int32))])) _
        refine XS.iconst X0.here hx rfl (hb hby d2_10) ?_
        show Steps p.tables e below (s₁.setTop (mkF m 11 #[.val (.int p1), .val (.int (1 : Int32))] [(.int (1 : Int32)), (.int (1 : Int32))])) _
        refine XS.iadd X0.here hx rfl (hb hby d2_11) rfl ?_
        show Steps p.tables e below (s₁.setTop (mkF m 12 #[.val (.int p1), .val (.int (1 : Int32))] [(.int ((1 : Int32) + (1 : Int32)))])) _
        refine XS.istoreN X0.here hx rfl (hb hby d2_12) rfl (l' := #[.val (.int p1), .val (.int ((1 : Int32) + (1 : Int32)))]) rfl ?_
        show Steps p.tables e below (s₁.setTop (mkF m 13 #[.val (.int p1), .val (.int ((1 : Int32) + (1 : Int32)))] [])) _
        exact k
      exact ⟨((1 : Int32) + (1 : Int32)), _, _, X0, N0, e0, (by first | exact (own_bi_t hc6).symm | exact (own_bi_f hc6).symm | (simp [own_bi, hc6]; done) | contradiction), pre5⟩
  obtain ⟨m0, T2, Lo2, X2, N2, e2, hm0, pre2⟩ := mrg2
  have mrg6 : ∃ (m1 : Int32) (T6 : State) (Lo6 : List Loc), Stand p l e ({ frames := 0, cells := 0, slots := 0, locals := 0 } : Room) s m #[(.int p1)] below meth c T6 Lo6 0 0 ∧ Fr n0 Lo6 ∧ T6.heap = h0 ∧ (m1 = m0 + own_bi (¬ p1 < 16384)) ∧ ∀ t, Steps p.tables e below (T6.setTop (mkF m 24 #[.val (.int p1), .val (.int m1)] [])) t → Steps p.tables e below (s₁.setTop (entryFrame m #[(.int p1)] 2)) t := by
    have pre7 : ∀ t, Steps p.tables e below (T2.setTop (mkF m 17 #[.val (.int p1), .val (.int m0)] [(.int (16384 : Int32)), (.int p1)])) t → Steps p.tables e below (s₁.setTop (entryFrame m #[(.int p1)] 2)) t := by
      intro t k
      refine pre2 t ?_
      refine XS.iloadN X2.here hx rfl (hb hby d2_13) rfl ?_
      show Steps p.tables e below (T2.setTop (mkF m 14 #[.val (.int p1), .val (.int m0)] [(.int p1)])) _
      refine XS.sipush X2.here hx rfl (hb hby d2_14) ?_
      show Steps p.tables e below (T2.setTop (mkF m 17 #[.val (.int p1), .val (.int m0)] [(.int (16384 : Int32)), (.int p1)])) _
      exact k
    by_cases hc17 : p1 < (16384 : Int32)
    · skip
      have pre8 : ∀ t, Steps p.tables e below (T2.setTop (mkF m 24 #[.val (.int p1), .val (.int m0)] [])) t → Steps p.tables e below (s₁.setTop (entryFrame m #[(.int p1)] 2)) t := by
        intro t k
        refine pre7 t ?_
        refine XS.icmpYes X2.here hx rfl (pc0 := 17) (pc' := 24) rfl (hb hby d2_17) rfl (XT.ii_lt_t hc17) (by decide) (by decide) ?_
        show Steps p.tables e below (T2.setTop (mkF m 24 #[.val (.int p1), .val (.int m0)] [])) _
        exact k
      exact ⟨m0, _, _, X2, N2, e2, (by first | exact (own_bi_t hc17).symm | exact (own_bi_f hc17).symm | (simp [own_bi, hc17]; done) | contradiction), pre8⟩
    · skip
      have pre9 : ∀ t, Steps p.tables e below (T2.setTop (mkF m 24 #[.val (.int p1), .val (.int (m0 + (1 : Int32)))] [])) t → Steps p.tables e below (s₁.setTop (entryFrame m #[(.int p1)] 2)) t := by
        intro t k
        refine pre7 t ?_
        refine XS.icmpNo X2.here hx rfl (hb hby d2_17) rfl (XT.ii_lt_f hc17) ?_
        show Steps p.tables e below (T2.setTop (mkF m 20 #[.val (.int p1), .val (.int m0)] [])) _
        refine XS.iloadN X2.here hx rfl (hb hby d2_20) rfl ?_
        show Steps p.tables e below (T2.setTop (mkF m 21 #[.val (.int p1), .val (.int m0)] [(.int m0)])) _
        refine XS.iconst X2.here hx rfl (hb hby d2_21) ?_
        show Steps p.tables e below (T2.setTop (mkF m 22 #[.val (.int p1), .val (.int m0)] [(.int (1 : Int32)), (.int m0)])) _
        refine XS.iadd X2.here hx rfl (hb hby d2_22) rfl ?_
        show Steps p.tables e below (T2.setTop (mkF m 23 #[.val (.int p1), .val (.int m0)] [(.int (m0 + (1 : Int32)))])) _
        refine XS.istoreN X2.here hx rfl (hb hby d2_23) rfl (l' := #[.val (.int p1), .val (.int (m0 + (1 : Int32)))]) rfl ?_
        show Steps p.tables e below (T2.setTop (mkF m 24 #[.val (.int p1), .val (.int (m0 + (1 : Int32)))] [])) _
        exact k
      exact ⟨(m0 + (1 : Int32)), _, _, X2, N2, e2, (by first | exact (own_bi_t hc17).symm | exact (own_bi_f hc17).symm | (simp [own_bi, hc17]; done) | contradiction), pre9⟩
  obtain ⟨m1, T6, Lo6, X6, N6, e6, hm1, pre6⟩ := mrg6
  have mrg10 : ∃ (m2 : Int32) (T10 : State) (Lo10 : List Loc), Stand p l e ({ frames := 0, cells := 0, slots := 0, locals := 0 } : Room) s m #[(.int p1)] below meth c T10 Lo10 0 0 ∧ Fr n0 Lo10 ∧ T10.heap = h0 ∧ (m2 = m1 + own_bi (¬ p1 < 2097152)) ∧ ∀ t, Steps p.tables e below (T10.setTop (mkF m 34 #[.val (.int p1), .val (.int m2)] [])) t → Steps p.tables e below (s₁.setTop (entryFrame m #[(.int p1)] 2)) t := by
    have pre11 : ∀ t, Steps p.tables e below (T6.setTop (mkF m 27 #[.val (.int p1), .val (.int m1)] [(.int (2097152 : Int32)), (.int p1)])) t → Steps p.tables e below (s₁.setTop (entryFrame m #[(.int p1)] 2)) t := by
      intro t k
      refine pre6 t ?_
      refine XS.iloadN X6.here hx rfl (hb hby d2_24) rfl ?_
      show Steps p.tables e below (T6.setTop (mkF m 25 #[.val (.int p1), .val (.int m1)] [(.int p1)])) _
      refine Stand.ldcI X6 hx hown (mvT hZ (hw _ (List.mem_of_getElem? (i := 10) rfl))) rfl (hb hby d2_25) ?_
      show Steps p.tables e below (T6.setTop (mkF m 27 #[.val (.int p1), .val (.int m1)] [(.int (2097152 : Int32)), (.int p1)])) _
      exact k
    by_cases hc27 : p1 < (2097152 : Int32)
    · skip
      have pre12 : ∀ t, Steps p.tables e below (T6.setTop (mkF m 34 #[.val (.int p1), .val (.int m1)] [])) t → Steps p.tables e below (s₁.setTop (entryFrame m #[(.int p1)] 2)) t := by
        intro t k
        refine pre11 t ?_
        refine XS.icmpYes X6.here hx rfl (pc0 := 27) (pc' := 34) rfl (hb hby d2_27) rfl (XT.ii_lt_t hc27) (by decide) (by decide) ?_
        show Steps p.tables e below (T6.setTop (mkF m 34 #[.val (.int p1), .val (.int m1)] [])) _
        exact k
      exact ⟨m1, _, _, X6, N6, e6, (by first | exact (own_bi_t hc27).symm | exact (own_bi_f hc27).symm | (simp [own_bi, hc27]; done) | contradiction), pre12⟩
    · skip
      have pre13 : ∀ t, Steps p.tables e below (T6.setTop (mkF m 34 #[.val (.int p1), .val (.int (m1 + (1 : Int32)))] [])) t → Steps p.tables e below (s₁.setTop (entryFrame m #[(.int p1)] 2)) t := by
        intro t k
        refine pre11 t ?_
        refine XS.icmpNo X6.here hx rfl (hb hby d2_27) rfl (XT.ii_lt_f hc27) ?_
        show Steps p.tables e below (T6.setTop (mkF m 30 #[.val (.int p1), .val (.int m1)] [])) _
        refine XS.iloadN X6.here hx rfl (hb hby d2_30) rfl ?_
        show Steps p.tables e below (T6.setTop (mkF m 31 #[.val (.int p1), .val (.int m1)] [(.int m1)])) _
        refine XS.iconst X6.here hx rfl (hb hby d2_31) ?_
        show Steps p.tables e below (T6.setTop (mkF m 32 #[.val (.int p1), .val (.int m1)] [(.int (1 : Int32)), (.int m1)])) _
        refine XS.iadd X6.here hx rfl (hb hby d2_32) rfl ?_
        show Steps p.tables e below (T6.setTop (mkF m 33 #[.val (.int p1), .val (.int m1)] [(.int (m1 + (1 : Int32)))])) _
        refine XS.istoreN X6.here hx rfl (hb hby d2_33) rfl (l' := #[.val (.int p1), .val (.int (m1 + (1 : Int32)))]) rfl ?_
        show Steps p.tables e below (T6.setTop (mkF m 34 #[.val (.int p1), .val (.int (m1 + (1 : Int32)))] [])) _
        exact k
      exact ⟨(m1 + (1 : Int32)), _, _, X6, N6, e6, (by first | exact (own_bi_t hc27).symm | exact (own_bi_f hc27).symm | (simp [own_bi, hc27]; done) | contradiction), pre13⟩
  obtain ⟨m2, T10, Lo10, X10, N10, e10, hm2, pre10⟩ := mrg10
  have mrg14 : ∃ (m3 : Int32) (T14 : State) (Lo14 : List Loc), Stand p l e ({ frames := 0, cells := 0, slots := 0, locals := 0 } : Room) s m #[(.int p1)] below meth c T14 Lo14 0 0 ∧ Fr n0 Lo14 ∧ T14.heap = h0 ∧ (m3 = m2 + own_bi (¬ p1 < 268435456)) ∧ ∀ t, Steps p.tables e below (T14.setTop (mkF m 44 #[.val (.int p1), .val (.int m3)] [])) t → Steps p.tables e below (s₁.setTop (entryFrame m #[(.int p1)] 2)) t := by
    have pre15 : ∀ t, Steps p.tables e below (T10.setTop (mkF m 37 #[.val (.int p1), .val (.int m2)] [(.int (268435456 : Int32)), (.int p1)])) t → Steps p.tables e below (s₁.setTop (entryFrame m #[(.int p1)] 2)) t := by
      intro t k
      refine pre10 t ?_
      refine XS.iloadN X10.here hx rfl (hb hby d2_34) rfl ?_
      show Steps p.tables e below (T10.setTop (mkF m 35 #[.val (.int p1), .val (.int m2)] [(.int p1)])) _
      refine Stand.ldcI X10 hx hown (mvT hZ (hw _ (List.mem_of_getElem? (i := 11) rfl))) rfl (hb hby d2_35) ?_
      show Steps p.tables e below (T10.setTop (mkF m 37 #[.val (.int p1), .val (.int m2)] [(.int (268435456 : Int32)), (.int p1)])) _
      exact k
    by_cases hc37 : p1 < (268435456 : Int32)
    · skip
      have pre16 : ∀ t, Steps p.tables e below (T10.setTop (mkF m 44 #[.val (.int p1), .val (.int m2)] [])) t → Steps p.tables e below (s₁.setTop (entryFrame m #[(.int p1)] 2)) t := by
        intro t k
        refine pre15 t ?_
        refine XS.icmpYes X10.here hx rfl (pc0 := 37) (pc' := 44) rfl (hb hby d2_37) rfl (XT.ii_lt_t hc37) (by decide) (by decide) ?_
        show Steps p.tables e below (T10.setTop (mkF m 44 #[.val (.int p1), .val (.int m2)] [])) _
        exact k
      exact ⟨m2, _, _, X10, N10, e10, (by first | exact (own_bi_t hc37).symm | exact (own_bi_f hc37).symm | (simp [own_bi, hc37]; done) | contradiction), pre16⟩
    · skip
      have pre17 : ∀ t, Steps p.tables e below (T10.setTop (mkF m 44 #[.val (.int p1), .val (.int (m2 + (1 : Int32)))] [])) t → Steps p.tables e below (s₁.setTop (entryFrame m #[(.int p1)] 2)) t := by
        intro t k
        refine pre15 t ?_
        refine XS.icmpNo X10.here hx rfl (hb hby d2_37) rfl (XT.ii_lt_f hc37) ?_
        show Steps p.tables e below (T10.setTop (mkF m 40 #[.val (.int p1), .val (.int m2)] [])) _
        refine XS.iloadN X10.here hx rfl (hb hby d2_40) rfl ?_
        show Steps p.tables e below (T10.setTop (mkF m 41 #[.val (.int p1), .val (.int m2)] [(.int m2)])) _
        refine XS.iconst X10.here hx rfl (hb hby d2_41) ?_
        show Steps p.tables e below (T10.setTop (mkF m 42 #[.val (.int p1), .val (.int m2)] [(.int (1 : Int32)), (.int m2)])) _
        refine XS.iadd X10.here hx rfl (hb hby d2_42) rfl ?_
        show Steps p.tables e below (T10.setTop (mkF m 43 #[.val (.int p1), .val (.int m2)] [(.int (m2 + (1 : Int32)))])) _
        refine XS.istoreN X10.here hx rfl (hb hby d2_43) rfl (l' := #[.val (.int p1), .val (.int (m2 + (1 : Int32)))]) rfl ?_
        show Steps p.tables e below (T10.setTop (mkF m 44 #[.val (.int p1), .val (.int (m2 + (1 : Int32)))] [])) _
        exact k
      exact ⟨(m2 + (1 : Int32)), _, _, X10, N10, e10, (by first | exact (own_bi_t hc37).symm | exact (own_bi_f hc37).symm | (simp [own_bi, hc37]; done) | contradiction), pre17⟩
  obtain ⟨m3, T14, Lo14, X14, N14, e14, hm3, pre14⟩ := mrg14
  have hres : m3 = own_cnt p1 := by subst hm0 hm1 hm2 hm3; rfl
  have pre18 : ∀ t, Steps p.tables e below (T14.setTop (mkF m 45 #[.val (.int p1), .val (.int m3)] [(.int m3)])) t → Steps p.tables e below (s₁.setTop (entryFrame m #[(.int p1)] 2)) t := by
    intro t k
    refine pre14 t ?_
    refine XS.iloadN X14.here hx rfl (hb hby d2_44) rfl ?_
    show Steps p.tables e below (T14.setTop (mkF m 45 #[.val (.int p1), .val (.int m3)] [(.int m3)])) _
    exact k
  obtain ⟨fs, hr, hrun, hended, hW, hsame⟩ := X14.leave (v := some (.int m3)) (fun h => by rw [Bd.returns] at h; cases h)
  refine ⟨_, _, pre18 _ ?_, hrun, hended, _, _, rfl, ?_, ⟨_, rfl⟩, hW, hsame.mono (by decide) (by decide)⟩
  · exact retOut X14 hx Bd.returns rfl (Or.inl ⟨rfl, by simp, _, rfl⟩) (hb hby d2_45) hr
  · show Q2 Z p1 h0 n0 _ T14.heap _
    rw [e14]
    exact ⟨(by rw [hres]), N14, rfl⟩
theorem pn_3 : plainName "com/example/sluice/sluice/state/SnapshotOutputPutLengthPinLaw" = true := by first | (simp [plainName, overriddenIn]; done) | decide +kernel
theorem d3_0 : decode method_4_code 0 = .ok (.iload_n 0, 1) := by decide +kernel
theorem d3_1 : decode method_4_code 1 = .ok (.iload_n 1, 1) := by decide +kernel
theorem d3_2 : decode method_4_code 2 = .ok (.if_icmp .lt 10, 3) := by decide +kernel
theorem d3_5 : decode method_4_code 5 = .ok (.iload_n 0, 1) := by decide +kernel
theorem d3_6 : decode method_4_code 6 = .ok (.iload_n 1, 1) := by decide +kernel
theorem d3_7 : decode method_4_code 7 = .ok (.iload_n 3, 1) := by decide +kernel
theorem d3_8 : decode method_4_code 8 = .ok (.iadd, 1) := by decide +kernel
theorem d3_9 : decode method_4_code 9 = .ok (.if_icmp .lt 6, 3) := by decide +kernel
theorem d3_12 : decode method_4_code 12 = .ok (.iload 4, 2) := by decide +kernel
theorem d3_14 : decode method_4_code 14 = .ok (.ireturn, 1) := by decide +kernel
theorem d3_15 : decode method_4_code 15 = .ok (.iload_n 0, 1) := by decide +kernel
theorem d3_16 : decode method_4_code 16 = .ok (.iload_n 1, 1) := by decide +kernel
theorem d3_17 : decode method_4_code 17 = .ok (.isub, 1) := by decide +kernel
theorem d3_18 : decode method_4_code 18 = .ok (.istore 5, 2) := by decide +kernel
theorem d3_20 : decode method_4_code 20 = .ok (.iload_n 2, 1) := by decide +kernel
theorem d3_21 : decode method_4_code 21 = .ok (.bipush 7, 2) := by decide +kernel
theorem d3_23 : decode method_4_code 23 = .ok (.iload 5, 2) := by decide +kernel
theorem d3_25 : decode method_4_code 25 = .ok (.imul, 1) := by decide +kernel
theorem d3_26 : decode method_4_code 26 = .ok (.iushr, 1) := by decide +kernel
theorem d3_27 : decode method_4_code 27 = .ok (.bipush 127, 2) := by decide +kernel
theorem d3_29 : decode method_4_code 29 = .ok (.iand, 1) := by decide +kernel
theorem d3_30 : decode method_4_code 30 = .ok (.istore 6, 2) := by decide +kernel
theorem d3_32 : decode method_4_code 32 = .ok (.iload 5, 2) := by decide +kernel
theorem d3_34 : decode method_4_code 34 = .ok (.iload_n 3, 1) := by decide +kernel
theorem d3_35 : decode method_4_code 35 = .ok (.iconst 1, 1) := by decide +kernel
theorem d3_36 : decode method_4_code 36 = .ok (.isub, 1) := by decide +kernel
theorem d3_37 : decode method_4_code 37 = .ok (.if_icmp .ge 11, 3) := by decide +kernel
theorem d3_40 : decode method_4_code 40 = .ok (.iload 6, 2) := by decide +kernel
theorem d3_42 : decode method_4_code 42 = .ok (.sipush 128, 3) := by decide +kernel
theorem d3_45 : decode method_4_code 45 = .ok (.ior, 1) := by decide +kernel
theorem d3_46 : decode method_4_code 46 = .ok (.istore 6, 2) := by decide +kernel
theorem d3_48 : decode method_4_code 48 = .ok (.iload 6, 2) := by decide +kernel
theorem d3_50 : decode method_4_code 50 = .ok (.i2b, 1) := by decide +kernel
theorem d3_51 : decode method_4_code 51 = .ok (.ireturn, 1) := by decide +kernel
theorem ef_3 (m : MethodId) (p1 : Int32) (p2 : Int32) (p3 : Int32) (p4 : Int32) (p5 : Int32) : entryFrame m #[(.int p1), (.int p2), (.int p3), (.int p4), (.int p5)] 7 = mkF m 0 #[.val (.int p1), .val (.int p2), .val (.int p3), .val (.int p4), .val (.int p5), .unset, .unset] [] := by first | (simp [entryFrame, mkF, argsToLocals, Value.category]; done) | rfl
def Q3 (Z : State) (p1 : Int32) (p2 : Int32) (p3 : Int32) (p4 : Int32) (p5 : Int32) (h0 : Heap) (n0 : Nat) (v : Option Value) (h : Heap) (L : List Loc) : Prop := v = some (.int (own_ex p1 p2 p3 p4 p5)) ∧ Fr n0 L ∧ h = h0
set_option maxRecDepth 65536 in
set_option maxHeartbeats 40000000 in
theorem rm3 (l : Launch) (Z : State) (a0 : Array Value) (hw : ∀ d ∈ tables_1, d.before a0 Z = true) (ws : List Jvm.Cond) (p1 : Int32) (p2 : Int32) (p3 : Int32) (p4 : Int32) (p5 : Int32) (h0 : Heap) (n0 : Nat) (Z0 : n0 ≤ h0.size) (hf : narrow .byte (.int p5) = .int p5) :
    MetFree l (⟨"com/example/sluice/sluice/state/SnapshotOutputPutLengthPinLaw", "expected", "(IIIIB)B"⟩ : MethodName) (head1 (Jvm.Cond.code (⟨"com/example/sluice/sluice/state/SnapshotOutputPutLengthPinLaw", "expected", "(IIIIB)B"⟩ : MethodName) method_4_code 7 (some .byte) :: ws) ({ frames := 0, cells := 0, slots := 0, locals := 0 } : Room)) (fun a U => a = #[(.int p1), (.int p2), (.int p3), (.int p4), (.int p5)] ∧ Z.Warmed39 U.vm ∧ U.heap = h0) (fun _ _ _ _ _ => True) (fun _ U o U' => ∃ v L, o = .returned v ∧ Q3 Z p1 p2 p3 p4 p5 h0 n0 v U'.heap L ∧ FrameEnd U o U' L ({ frames := 0, cells := 0, slots := 0, locals := 0 } : Room).cells ({ frames := 0, cells := 0, slots := 0, locals := 0 } : Room).slots) := by
  refine MetFree.of_bodySF (plainFor_of_name pn_3) hisR ?_
  intro p e s m args below meth c s₁ Bd hml0 hP hK
  obtain ⟨rfl, hZ, hh⟩ := hP
  have hx := Bd.exec
  have hby := Bd.bytes
  have hml : c.maxLocals = 7 := hml0
  have hown : s.vm.findClass "com/example/sluice/sluice/state/SnapshotOutputPutLengthPinLaw" = some m.cls := findClass_of_methodNamed Bd.named
  have hnm := (name_of_methodNamed Bd.named Bd.method).1
  have X0 : Stand p l e ({ frames := 0, cells := 0, slots := 0, locals := 0 } : Room) s m #[(.int p1), (.int p2), (.int p3), (.int p4), (.int p5)] below meth c s₁ [] 0 0 := Stand.of_body Bd
  have e0 : s₁.heap = h0 := by rw [← hh, Bd.state]; rfl
  have N0 := Fr.nil n0
  have pre0 : ∀ t, Steps p.tables e below (s₁.setTop (mkF m 0 #[.val (.int p1), .val (.int p2), .val (.int p3), .val (.int p4), .val (.int p5), .unset, .unset] [])) t → Steps p.tables e below (s₁.setTop (entryFrame m #[(.int p1), (.int p2), (.int p3), (.int p4), (.int p5)] 7)) t := fun t k => castTop (ef_3 m p1 p2 p3 p4 p5) k
  have pre1 : ∀ t, Steps p.tables e below (s₁.setTop (mkF m 2 #[.val (.int p1), .val (.int p2), .val (.int p3), .val (.int p4), .val (.int p5), .unset, .unset] [(.int p2), (.int p1)])) t → Steps p.tables e below (s₁.setTop (entryFrame m #[(.int p1), (.int p2), (.int p3), (.int p4), (.int p5)] 7)) t := by
    intro t k
    refine pre0 t ?_
    refine XS.iloadN X0.here hx rfl (hb hby d3_0) rfl ?_
    show Steps p.tables e below (s₁.setTop (mkF m 1 #[.val (.int p1), .val (.int p2), .val (.int p3), .val (.int p4), .val (.int p5), .unset, .unset] [(.int p1)])) _
    refine XS.iloadN X0.here hx rfl (hb hby d3_1) rfl ?_
    show Steps p.tables e below (s₁.setTop (mkF m 2 #[.val (.int p1), .val (.int p2), .val (.int p3), .val (.int p4), .val (.int p5), .unset, .unset] [(.int p2), (.int p1)])) _
    exact k
  by_cases hs1 : p1 < p2
  · skip
    have pre2 : ∀ t, Steps p.tables e below (s₁.setTop (mkF m 14 #[.val (.int p1), .val (.int p2), .val (.int p3), .val (.int p4), .val (.int p5), .unset, .unset] [(.int p5)])) t → Steps p.tables e below (s₁.setTop (entryFrame m #[(.int p1), (.int p2), (.int p3), (.int p4), (.int p5)] 7)) t := by
      intro t k
      refine pre1 t ?_
      refine XS.icmpYes X0.here hx rfl (pc0 := 2) (pc' := 12) rfl (hb hby d3_2) rfl (XT.ii_lt_t hs1) (by decide) (by decide) ?_
      show Steps p.tables e below (s₁.setTop (mkF m 12 #[.val (.int p1), .val (.int p2), .val (.int p3), .val (.int p4), .val (.int p5), .unset, .unset] [])) _
      refine XS.iload X0.here hx rfl (hb hby d3_12) rfl ?_
      show Steps p.tables e below (s₁.setTop (mkF m 14 #[.val (.int p1), .val (.int p2), .val (.int p3), .val (.int p4), .val (.int p5), .unset, .unset] [(.int p5)])) _
      exact k
    obtain ⟨fs, hr, hrun, hended, hW, hsame⟩ := X0.leave (v := some (.int p5)) (fun h => by rw [Bd.returns] at h; cases h)
    refine ⟨_, _, pre2 _ ?_, hrun, hended, _, _, rfl, ?_, ⟨_, rfl⟩, hW, hsame.mono (by decide) (by decide)⟩
    · exact retOut X0 hx Bd.returns hf (Or.inl ⟨rfl, by simp, _, rfl⟩) (hb hby d3_14) hr
    · show Q3 Z p1 p2 p3 p4 p5 h0 n0 _ s₁.heap _
      rw [e0]
      exact ⟨(by rw [own_ex_out (Or.inl hs1)]), N0, rfl⟩
  · skip
    have pre4 : ∀ t, Steps p.tables e below (s₁.setTop (mkF m 9 #[.val (.int p1), .val (.int p2), .val (.int p3), .val (.int p4), .val (.int p5), .unset, .unset] [(.int (p2 + p4)), (.int p1)])) t → Steps p.tables e below (s₁.setTop (entryFrame m #[(.int p1), (.int p2), (.int p3), (.int p4), (.int p5)] 7)) t := by
      intro t k
      refine pre1 t ?_
      refine XS.icmpNo X0.here hx rfl (hb hby d3_2) rfl (XT.ii_lt_f hs1) ?_
      show Steps p.tables e below (s₁.setTop (mkF m 5 #[.val (.int p1), .val (.int p2), .val (.int p3), .val (.int p4), .val (.int p5), .unset, .unset] [])) _
      refine XS.iloadN X0.here hx rfl (hb hby d3_5) rfl ?_
      show Steps p.tables e below (s₁.setTop (mkF m 6 #[.val (.int p1), .val (.int p2), .val (.int p3), .val (.int p4), .val (.int p5), .unset, .unset] [(.int p1)])) _
      refine XS.iloadN X0.here hx rfl (hb hby d3_6) rfl ?_
      show Steps p.tables e below (s₁.setTop (mkF m 7 #[.val (.int p1), .val (.int p2), .val (.int p3), .val (.int p4), .val (.int p5), .unset, .unset] [(.int p2), (.int p1)])) _
      refine XS.iloadN X0.here hx rfl (hb hby d3_7) rfl ?_
      show Steps p.tables e below (s₁.setTop (mkF m 8 #[.val (.int p1), .val (.int p2), .val (.int p3), .val (.int p4), .val (.int p5), .unset, .unset] [(.int p4), (.int p2), (.int p1)])) _
      refine XS.iadd X0.here hx rfl (hb hby d3_8) rfl ?_
      show Steps p.tables e below (s₁.setTop (mkF m 9 #[.val (.int p1), .val (.int p2), .val (.int p3), .val (.int p4), .val (.int p5), .unset, .unset] [(.int (p2 + p4)), (.int p1)])) _
      exact k
    by_cases hs2 : p1 < (p2 + p4)
    · skip
      have pre5 : ∀ t, Steps p.tables e below (s₁.setTop (mkF m 32 #[.val (.int p1), .val (.int p2), .val (.int p3), .val (.int p4), .val (.int p5), .val (.int (p1 - p2)), .val (.int ((XT.ushr p3 ((7 : Int32) * (p1 - p2))) &&& (127 : Int32)))] [])) t → Steps p.tables e below (s₁.setTop (entryFrame m #[(.int p1), (.int p2), (.int p3), (.int p4), (.int p5)] 7)) t := by
        intro t k
        refine pre4 t ?_
        refine XS.icmpYes X0.here hx rfl (pc0 := 9) (pc' := 15) rfl (hb hby d3_9) rfl (XT.ii_lt_t hs2) (by decide) (by decide) ?_
        show Steps p.tables e below (s₁.setTop (mkF m 15 #[.val (.int p1), .val (.int p2), .val (.int p3), .val (.int p4), .val (.int p5), .unset, .unset] [])) _
        refine XS.iloadN X0.here hx rfl (hb hby d3_15) rfl ?_
        show Steps p.tables e below (s₁.setTop (mkF m 16 #[.val (.int p1), .val (.int p2), .val (.int p3), .val (.int p4), .val (.int p5), .unset, .unset] [(.int p1)])) _
        refine XS.iloadN X0.here hx rfl (hb hby d3_16) rfl ?_
        show Steps p.tables e below (s₁.setTop (mkF m 17 #[.val (.int p1), .val (.int p2), .val (.int p3), .val (.int p4), .val (.int p5), .unset, .unset] [(.int p2), (.int p1)])) _
        refine XS.isub X0.here hx rfl (hb hby d3_17) rfl ?_
        show Steps p.tables e below (s₁.setTop (mkF m 18 #[.val (.int p1), .val (.int p2), .val (.int p3), .val (.int p4), .val (.int p5), .unset, .unset] [(.int (p1 - p2))])) _
        refine XS.istore X0.here hx rfl (hb hby d3_18) rfl (l' := #[.val (.int p1), .val (.int p2), .val (.int p3), .val (.int p4), .val (.int p5), .val (.int (p1 - p2)), .unset]) rfl ?_
        show Steps p.tables e below (s₁.setTop (mkF m 20 #[.val (.int p1), .val (.int p2), .val (.int p3), .val (.int p4), .val (.int p5), .val (.int (p1 - p2)), .unset] [])) _
        refine XS.iloadN X0.here hx rfl (hb hby d3_20) rfl ?_
        show Steps p.tables e below (s₁.setTop (mkF m 21 #[.val (.int p1), .val (.int p2), .val (.int p3), .val (.int p4), .val (.int p5), .val (.int (p1 - p2)), .unset] [(.int p3)])) _
        refine XS.bipush X0.here hx rfl (hb hby d3_21) ?_
        show Steps p.tables e below (s₁.setTop (mkF m 23 #[.val (.int p1), .val (.int p2), .val (.int p3), .val (.int p4), .val (.int p5), .val (.int (p1 - p2)), .unset] [(.int (7 : Int32)), (.int p3)])) _
        refine XS.iload X0.here hx rfl (hb hby d3_23) rfl ?_
        show Steps p.tables e below (s₁.setTop (mkF m 25 #[.val (.int p1), .val (.int p2), .val (.int p3), .val (.int p4), .val (.int p5), .val (.int (p1 - p2)), .unset] [(.int (p1 - p2)), (.int (7 : Int32)), (.int p3)])) _
        refine XS.imul X0.here hx rfl (hb hby d3_25) rfl ?_
        show Steps p.tables e below (s₁.setTop (mkF m 26 #[.val (.int p1), .val (.int p2), .val (.int p3), .val (.int p4), .val (.int p5), .val (.int (p1 - p2)), .unset] [(.int ((7 : Int32) * (p1 - p2))), (.int p3)])) _
        refine XT.iushr X0.here hx rfl (hb hby d3_26) rfl ?_
        show Steps p.tables e below (s₁.setTop (mkF m 27 #[.val (.int p1), .val (.int p2), .val (.int p3), .val (.int p4), .val (.int p5), .val (.int (p1 - p2)), .unset] [(.int (XT.ushr p3 ((7 : Int32) * (p1 - p2))))])) _
        refine XS.bipush X0.here hx rfl (hb hby d3_27) ?_
        show Steps p.tables e below (s₁.setTop (mkF m 29 #[.val (.int p1), .val (.int p2), .val (.int p3), .val (.int p4), .val (.int p5), .val (.int (p1 - p2)), .unset] [(.int (127 : Int32)), (.int (XT.ushr p3 ((7 : Int32) * (p1 - p2))))])) _
        refine XS.iand X0.here hx rfl (hb hby d3_29) rfl ?_
        show Steps p.tables e below (s₁.setTop (mkF m 30 #[.val (.int p1), .val (.int p2), .val (.int p3), .val (.int p4), .val (.int p5), .val (.int (p1 - p2)), .unset] [(.int ((XT.ushr p3 ((7 : Int32) * (p1 - p2))) &&& (127 : Int32)))])) _
        refine XS.istore X0.here hx rfl (hb hby d3_30) rfl (l' := #[.val (.int p1), .val (.int p2), .val (.int p3), .val (.int p4), .val (.int p5), .val (.int (p1 - p2)), .val (.int ((XT.ushr p3 ((7 : Int32) * (p1 - p2))) &&& (127 : Int32)))]) rfl ?_
        show Steps p.tables e below (s₁.setTop (mkF m 32 #[.val (.int p1), .val (.int p2), .val (.int p3), .val (.int p4), .val (.int p5), .val (.int (p1 - p2)), .val (.int ((XT.ushr p3 ((7 : Int32) * (p1 - p2))) &&& (127 : Int32)))] [])) _
        exact k
      have mrg6 : ∃ (gr : Int32) (T6 : State) (Lo6 : List Loc), Stand p l e ({ frames := 0, cells := 0, slots := 0, locals := 0 } : Room) s m #[(.int p1), (.int p2), (.int p3), (.int p4), (.int p5)] below meth c T6 Lo6 0 0 ∧ Fr n0 Lo6 ∧ T6.heap = h0 ∧ (gr = (if (p1 - p2) < (p4 - (1 : Int32)) then ((XT.ushr p3 ((7 : Int32) * (p1 - p2)) &&& (127 : Int32)) ||| (128 : Int32)) else (XT.ushr p3 ((7 : Int32) * (p1 - p2)) &&& (127 : Int32)))) ∧ ∀ t, Steps p.tables e below (T6.setTop (mkF m 48 #[.val (.int p1), .val (.int p2), .val (.int p3), .val (.int p4), .val (.int p5), .val (.int (p1 - p2)), .val (.int gr)] [])) t → Steps p.tables e below (s₁.setTop (entryFrame m #[(.int p1), (.int p2), (.int p3), (.int p4), (.int p5)] 7)) t := by
        have pre7 : ∀ t, Steps p.tables e below (s₁.setTop (mkF m 37 #[.val (.int p1), .val (.int p2), .val (.int p3), .val (.int p4), .val (.int p5), .val (.int (p1 - p2)), .val (.int ((XT.ushr p3 ((7 : Int32) * (p1 - p2))) &&& (127 : Int32)))] [(.int (p4 - (1 : Int32))), (.int (p1 - p2))])) t → Steps p.tables e below (s₁.setTop (entryFrame m #[(.int p1), (.int p2), (.int p3), (.int p4), (.int p5)] 7)) t := by
          intro t k
          refine pre5 t ?_
          refine XS.iload X0.here hx rfl (hb hby d3_32) rfl ?_
          show Steps p.tables e below (s₁.setTop (mkF m 34 #[.val (.int p1), .val (.int p2), .val (.int p3), .val (.int p4), .val (.int p5), .val (.int (p1 - p2)), .val (.int ((XT.ushr p3 ((7 : Int32) * (p1 - p2))) &&& (127 : Int32)))] [(.int (p1 - p2))])) _
          refine XS.iloadN X0.here hx rfl (hb hby d3_34) rfl ?_
          show Steps p.tables e below (s₁.setTop (mkF m 35 #[.val (.int p1), .val (.int p2), .val (.int p3), .val (.int p4), .val (.int p5), .val (.int (p1 - p2)), .val (.int ((XT.ushr p3 ((7 : Int32) * (p1 - p2))) &&& (127 : Int32)))] [(.int p4), (.int (p1 - p2))])) _
          refine XS.iconst X0.here hx rfl (hb hby d3_35) ?_
          show Steps p.tables e below (s₁.setTop (mkF m 36 #[.val (.int p1), .val (.int p2), .val (.int p3), .val (.int p4), .val (.int p5), .val (.int (p1 - p2)), .val (.int ((XT.ushr p3 ((7 : Int32) * (p1 - p2))) &&& (127 : Int32)))] [(.int (1 : Int32)), (.int p4), (.int (p1 - p2))])) _
          refine XS.isub X0.here hx rfl (hb hby d3_36) rfl ?_
          show Steps p.tables e below (s₁.setTop (mkF m 37 #[.val (.int p1), .val (.int p2), .val (.int p3), .val (.int p4), .val (.int p5), .val (.int (p1 - p2)), .val (.int ((XT.ushr p3 ((7 : Int32) * (p1 - p2))) &&& (127 : Int32)))] [(.int (p4 - (1 : Int32))), (.int (p1 - p2))])) _
          exact k
        by_cases hc37 : (p1 - p2) < (p4 - (1 : Int32))
        · skip
          have pre8 : ∀ t, Steps p.tables e below (s₁.setTop (mkF m 48 #[.val (.int p1), .val (.int p2), .val (.int p3), .val (.int p4), .val (.int p5), .val (.int (p1 - p2)), .val (.int (((XT.ushr p3 ((7 : Int32) * (p1 - p2))) &&& (127 : Int32)) ||| (128 : Int32)))] [])) t → Steps p.tables e below (s₁.setTop (entryFrame m #[(.int p1), (.int p2), (.int p3), (.int p4), (.int p5)] 7)) t := by
            intro t k
            refine pre7 t ?_
            refine XS.icmpNo X0.here hx rfl (hb hby d3_37) rfl (XT.ii_ge_f hc37) ?_
            show Steps p.tables e below (s₁.setTop (mkF m 40 #[.val (.int p1), .val (.int p2), .val (.int p3), .val (.int p4), .val (.int p5), .val (.int (p1 - p2)), .val (.int ((XT.ushr p3 ((7 : Int32) * (p1 - p2))) &&& (127 : Int32)))] [])) _
            refine XS.iload X0.here hx rfl (hb hby d3_40) rfl ?_
            show Steps p.tables e below (s₁.setTop (mkF m 42 #[.val (.int p1), .val (.int p2), .val (.int p3), .val (.int p4), .val (.int p5), .val (.int (p1 - p2)), .val (.int ((XT.ushr p3 ((7 : Int32) * (p1 - p2))) &&& (127 : Int32)))] [(.int ((XT.ushr p3 ((7 : Int32) * (p1 - p2))) &&& (127 : Int32)))])) _
            refine XS.sipush X0.here hx rfl (hb hby d3_42) ?_
            show Steps p.tables e below (s₁.setTop (mkF m 45 #[.val (.int p1), .val (.int p2), .val (.int p3), .val (.int p4), .val (.int p5), .val (.int (p1 - p2)), .val (.int ((XT.ushr p3 ((7 : Int32) * (p1 - p2))) &&& (127 : Int32)))] [(.int (128 : Int32)), (.int ((XT.ushr p3 ((7 : Int32) * (p1 - p2))) &&& (127 : Int32)))])) _
            refine XT.ior X0.here hx rfl (hb hby d3_45) rfl ?_
            show Steps p.tables e below (s₁.setTop (mkF m 46 #[.val (.int p1), .val (.int p2), .val (.int p3), .val (.int p4), .val (.int p5), .val (.int (p1 - p2)), .val (.int ((XT.ushr p3 ((7 : Int32) * (p1 - p2))) &&& (127 : Int32)))] [(.int (((XT.ushr p3 ((7 : Int32) * (p1 - p2))) &&& (127 : Int32)) ||| (128 : Int32)))])) _
            refine XS.istore X0.here hx rfl (hb hby d3_46) rfl (l' := #[.val (.int p1), .val (.int p2), .val (.int p3), .val (.int p4), .val (.int p5), .val (.int (p1 - p2)), .val (.int (((XT.ushr p3 ((7 : Int32) * (p1 - p2))) &&& (127 : Int32)) ||| (128 : Int32)))]) rfl ?_
            show Steps p.tables e below (s₁.setTop (mkF m 48 #[.val (.int p1), .val (.int p2), .val (.int p3), .val (.int p4), .val (.int p5), .val (.int (p1 - p2)), .val (.int (((XT.ushr p3 ((7 : Int32) * (p1 - p2))) &&& (127 : Int32)) ||| (128 : Int32)))] [])) _
            exact k
          exact ⟨(((XT.ushr p3 ((7 : Int32) * (p1 - p2))) &&& (127 : Int32)) ||| (128 : Int32)), _, _, X0, N0, e0, (by first | rw [if_pos hc37] | rw [if_neg hc37]), pre8⟩
        · skip
          have pre9 : ∀ t, Steps p.tables e below (s₁.setTop (mkF m 48 #[.val (.int p1), .val (.int p2), .val (.int p3), .val (.int p4), .val (.int p5), .val (.int (p1 - p2)), .val (.int ((XT.ushr p3 ((7 : Int32) * (p1 - p2))) &&& (127 : Int32)))] [])) t → Steps p.tables e below (s₁.setTop (entryFrame m #[(.int p1), (.int p2), (.int p3), (.int p4), (.int p5)] 7)) t := by
            intro t k
            refine pre7 t ?_
            refine XS.icmpYes X0.here hx rfl (pc0 := 37) (pc' := 48) rfl (hb hby d3_37) rfl (XT.ii_ge_t hc37) (by decide) (by decide) ?_
            show Steps p.tables e below (s₁.setTop (mkF m 48 #[.val (.int p1), .val (.int p2), .val (.int p3), .val (.int p4), .val (.int p5), .val (.int (p1 - p2)), .val (.int ((XT.ushr p3 ((7 : Int32) * (p1 - p2))) &&& (127 : Int32)))] [])) _
            exact k
          exact ⟨((XT.ushr p3 ((7 : Int32) * (p1 - p2))) &&& (127 : Int32)), _, _, X0, N0, e0, (by first | rw [if_pos hc37] | rw [if_neg hc37]), pre9⟩
      obtain ⟨gr, T6, Lo6, X6, N6, e6, hgr, pre6⟩ := mrg6
      have pre10 : ∀ t, Steps p.tables e below (T6.setTop (mkF m 51 #[.val (.int p1), .val (.int p2), .val (.int p3), .val (.int p4), .val (.int p5), .val (.int (p1 - p2)), .val (.int gr)] [(.int (gr.toInt8.toInt32))])) t → Steps p.tables e below (s₁.setTop (entryFrame m #[(.int p1), (.int p2), (.int p3), (.int p4), (.int p5)] 7)) t := by
        intro t k
        refine pre6 t ?_
        refine XS.iload X6.here hx rfl (hb hby d3_48) rfl ?_
        show Steps p.tables e below (T6.setTop (mkF m 50 #[.val (.int p1), .val (.int p2), .val (.int p3), .val (.int p4), .val (.int p5), .val (.int (p1 - p2)), .val (.int gr)] [(.int gr)])) _
        refine XT.i2b X6.here hx rfl (hb hby d3_50) rfl ?_
        show Steps p.tables e below (T6.setTop (mkF m 51 #[.val (.int p1), .val (.int p2), .val (.int p3), .val (.int p4), .val (.int p5), .val (.int (p1 - p2)), .val (.int gr)] [(.int (gr.toInt8.toInt32))])) _
        exact k
      obtain ⟨fs, hr, hrun, hended, hW, hsame⟩ := X6.leave (v := some (.int (gr.toInt8.toInt32))) (fun h => by rw [Bd.returns] at h; cases h)
      refine ⟨_, _, pre10 _ ?_, hrun, hended, _, _, rfl, ?_, ⟨_, rfl⟩, hW, hsame.mono (by decide) (by decide)⟩
      · exact retOut X6 hx Bd.returns (XT.narrow_b _) (Or.inl ⟨rfl, by simp, _, rfl⟩) (hb hby d3_51) hr
      · show Q3 Z p1 p2 p3 p4 p5 h0 n0 _ T6.heap _
        rw [e6]
        exact ⟨(by rw [own_ex_in (fun q => q.elim hs1 (fun u => u hs2)), hgr]), N6, rfl⟩
    · skip
      have pre12 : ∀ t, Steps p.tables e below (s₁.setTop (mkF m 14 #[.val (.int p1), .val (.int p2), .val (.int p3), .val (.int p4), .val (.int p5), .unset, .unset] [(.int p5)])) t → Steps p.tables e below (s₁.setTop (entryFrame m #[(.int p1), (.int p2), (.int p3), (.int p4), (.int p5)] 7)) t := by
        intro t k
        refine pre4 t ?_
        refine XS.icmpNo X0.here hx rfl (hb hby d3_9) rfl (XT.ii_lt_f hs2) ?_
        show Steps p.tables e below (s₁.setTop (mkF m 12 #[.val (.int p1), .val (.int p2), .val (.int p3), .val (.int p4), .val (.int p5), .unset, .unset] [])) _
        refine XS.iload X0.here hx rfl (hb hby d3_12) rfl ?_
        show Steps p.tables e below (s₁.setTop (mkF m 14 #[.val (.int p1), .val (.int p2), .val (.int p3), .val (.int p4), .val (.int p5), .unset, .unset] [(.int p5)])) _
        exact k
      obtain ⟨fs, hr, hrun, hended, hW, hsame⟩ := X0.leave (v := some (.int p5)) (fun h => by rw [Bd.returns] at h; cases h)
      refine ⟨_, _, pre12 _ ?_, hrun, hended, _, _, rfl, ?_, ⟨_, rfl⟩, hW, hsame.mono (by decide) (by decide)⟩
      · exact retOut X0 hx Bd.returns hf (Or.inl ⟨rfl, by simp, _, rfl⟩) (hb hby d3_14) hr
      · show Q3 Z p1 p2 p3 p4 p5 h0 n0 _ s₁.heap _
        rw [e0]
        exact ⟨(by rw [own_ex_out (Or.inr hs2)]), N0, rfl⟩
theorem pd_pl : parseMethodDescriptor "([BII)I" = some ⟨[(.array .byte), .int, .int], some .int⟩ := by decide +kernel
theorem pd_cnt : parseMethodDescriptor "(I)I" = some ⟨[.int], some .int⟩ := by decide +kernel
theorem pd_exp : parseMethodDescriptor "(IIIIB)B" = some ⟨[.int, .int, .int, .int, .byte], some .byte⟩ := by decide +kernel
theorem pn_law : plainName "com/example/sluice/sluice/state/SnapshotOutputPutLengthPinLaw" = true := by first | (simp [plainName, overriddenIn]; done) | decide +kernel
theorem ef_law (m : MethodId) (x0 : Int32) (s0 : Int32) (a2 : Int32) (f0 : Int32) : entryFrame m #[(.int x0), (.int s0), (.int a2), (.int f0)] maxLocals = mkF m 0 #[.val (.int x0), .val (.int s0), .val (.int a2), .val (.int f0), .unset, .unset, .unset, .unset, .unset, .unset] [] := by first | (simp [entryFrame, mkF, argsToLocals, Value.category, maxLocals]; done) | rfl
def Qlaw (Z : State) (x0 : Int32) (s0 : Int32) (a2 : Int32) (f0 : Int32) (h0 : Heap) (n0 : Nat) (v : Option Value) (h : Heap) (L : List Loc) : Prop := v = some (.int (1 : Int32)) ∧ Fr n0 L
set_option maxRecDepth 65536 in
set_option maxHeartbeats 40000000 in
theorem rmlaw (l : Launch) (Z : State) (a0 : Array Value) (hw : ∀ d ∈ tables_1, d.before a0 Z = true) (ws : List Jvm.Cond) (x0 : Int32) (s0 : Int32) (a2 : Int32) (f0 : Int32) (h0 : Heap) (n0 : Nat) (Z0 : n0 ≤ h0.size) :
    MetFree l x (head1 (Jvm.Cond.code x code maxLocals ret :: ws) room_1) (fun a U => a = #[(.int x0), (.int s0), (.int a2), (.int f0)] ∧ Z.Warmed39 U.vm ∧ U.heap = h0) (fun _ _ _ _ _ => True) (fun _ U o U' => ∃ v L, o = .returned v ∧ Qlaw Z x0 s0 a2 f0 h0 n0 v U'.heap L ∧ FrameEnd U o U' L room_1.cells room_1.slots) := by
  refine MetFree.of_bodySF (plainFor_of_name pn_law) hisR ?_
  intro p e s m args below meth c s₁ Bd hml0 hP hK
  obtain ⟨rfl, hZ, hh⟩ := hP
  have hx := Bd.exec
  have hby := Bd.bytes
  have hml : c.maxLocals = 10 := hml0
  have hown : s.vm.findClass "com/example/sluice/sluice/state/SnapshotOutputPutLengthPinLaw" = some m.cls := findClass_of_methodNamed Bd.named
  have hnm := (name_of_methodNamed Bd.named Bd.method).1
  have X0 : Stand p l e room_1 s m #[(.int x0), (.int s0), (.int a2), (.int f0)] below meth c s₁ [] 0 0 := Stand.of_body Bd
  have e0 : s₁.heap = h0 := by rw [← hh, Bd.state]; rfl
  have N0 := Fr.nil n0
  have pre0 : ∀ t, Steps p.tables e below (s₁.setTop (mkF m 0 #[.val (.int x0), .val (.int s0), .val (.int a2), .val (.int f0), .unset, .unset, .unset, .unset, .unset, .unset] [])) t → Steps p.tables e below (s₁.setTop (entryFrame m #[(.int x0), (.int s0), (.int a2), (.int f0)] maxLocals)) t := fun t k => castTop (ef_law m x0 s0 a2 f0) k
  have pre1 : ∀ t, Steps p.tables e below (s₁.setTop (mkF m 11 #[.val (.int x0), .val (.int s0), .val (.int a2), .val (.int f0), .val (.int (XT.ushr (x0 &&& (2147483647 : Int32)) (s0 &&& (31 : Int32)))), .unset, .unset, .unset, .unset, .unset] [])) t → Steps p.tables e below (s₁.setTop (entryFrame m #[(.int x0), (.int s0), (.int a2), (.int f0)] maxLocals)) t := by
    intro t k
    refine pre0 t ?_
    refine XS.iloadN X0.here hx rfl (hb hby at_0) rfl ?_
    show Steps p.tables e below (s₁.setTop (mkF m 1 #[.val (.int x0), .val (.int s0), .val (.int a2), .val (.int f0), .unset, .unset, .unset, .unset, .unset, .unset] [(.int x0)])) _
    refine Stand.ldcI X0 hx hown (mvT hZ (hw _ (List.mem_of_getElem? (i := 0) rfl))) rfl (hb hby at_1) ?_
    show Steps p.tables e below (s₁.setTop (mkF m 3 #[.val (.int x0), .val (.int s0), .val (.int a2), .val (.int f0), .unset, .unset, .unset, .unset, .unset, .unset] [(.int (2147483647 : Int32)), (.int x0)])) _
    refine XS.iand X0.here hx rfl (hb hby at_3) rfl ?_
    show Steps p.tables e below (s₁.setTop (mkF m 4 #[.val (.int x0), .val (.int s0), .val (.int a2), .val (.int f0), .unset, .unset, .unset, .unset, .unset, .unset] [(.int (x0 &&& (2147483647 : Int32)))])) _
    refine XS.iloadN X0.here hx rfl (hb hby at_4) rfl ?_
    show Steps p.tables e below (s₁.setTop (mkF m 5 #[.val (.int x0), .val (.int s0), .val (.int a2), .val (.int f0), .unset, .unset, .unset, .unset, .unset, .unset] [(.int s0), (.int (x0 &&& (2147483647 : Int32)))])) _
    refine XS.bipush X0.here hx rfl (hb hby at_5) ?_
    show Steps p.tables e below (s₁.setTop (mkF m 7 #[.val (.int x0), .val (.int s0), .val (.int a2), .val (.int f0), .unset, .unset, .unset, .unset, .unset, .unset] [(.int (31 : Int32)), (.int s0), (.int (x0 &&& (2147483647 : Int32)))])) _
    refine XS.iand X0.here hx rfl (hb hby at_7) rfl ?_
    show Steps p.tables e below (s₁.setTop (mkF m 8 #[.val (.int x0), .val (.int s0), .val (.int a2), .val (.int f0), .unset, .unset, .unset, .unset, .unset, .unset] [(.int (s0 &&& (31 : Int32))), (.int (x0 &&& (2147483647 : Int32)))])) _
    refine XT.iushr X0.here hx rfl (hb hby at_8) rfl ?_
    show Steps p.tables e below (s₁.setTop (mkF m 9 #[.val (.int x0), .val (.int s0), .val (.int a2), .val (.int f0), .unset, .unset, .unset, .unset, .unset, .unset] [(.int (XT.ushr (x0 &&& (2147483647 : Int32)) (s0 &&& (31 : Int32))))])) _
    refine XS.istore X0.here hx rfl (hb hby at_9) rfl (l' := #[.val (.int x0), .val (.int s0), .val (.int a2), .val (.int f0), .val (.int (XT.ushr (x0 &&& (2147483647 : Int32)) (s0 &&& (31 : Int32)))), .unset, .unset, .unset, .unset, .unset]) rfl ?_
    show Steps p.tables e below (s₁.setTop (mkF m 11 #[.val (.int x0), .val (.int s0), .val (.int a2), .val (.int f0), .val (.int (XT.ushr (x0 &&& (2147483647 : Int32)) (s0 &&& (31 : Int32)))), .unset, .unset, .unset, .unset, .unset] [])) _
    exact k
  obtain ⟨ln, hn_ln, pre2⟩ : ∃ ln : Int32, ln = (XT.ushr (x0 &&& (2147483647 : Int32)) (s0 &&& (31 : Int32))) ∧ ∀ t, Steps p.tables e below (s₁.setTop (mkF m 11 #[.val (.int x0), .val (.int s0), .val (.int a2), .val (.int f0), .val (.int ln), .unset, .unset, .unset, .unset, .unset] [])) t → Steps p.tables e below (s₁.setTop (entryFrame m #[(.int x0), (.int s0), (.int a2), (.int f0)] maxLocals)) t := ⟨_, rfl, pre1⟩
  have pre3 : ∀ t, Steps p.tables e below (s₁.setTop (mkF m 16 #[.val (.int x0), .val (.int s0), .val (.int a2), .val (.int f0), .val (.int ln), .val (.int (a2 &&& (3 : Int32))), .unset, .unset, .unset, .unset] [])) t → Steps p.tables e below (s₁.setTop (entryFrame m #[(.int x0), (.int s0), (.int a2), (.int f0)] maxLocals)) t := by
    intro t k
    refine pre2 t ?_
    refine XS.iloadN X0.here hx rfl (hb hby at_11) rfl ?_
    show Steps p.tables e below (s₁.setTop (mkF m 12 #[.val (.int x0), .val (.int s0), .val (.int a2), .val (.int f0), .val (.int ln), .unset, .unset, .unset, .unset, .unset] [(.int a2)])) _
    refine XS.iconst X0.here hx rfl (hb hby at_12) ?_
    show Steps p.tables e below (s₁.setTop (mkF m 13 #[.val (.int x0), .val (.int s0), .val (.int a2), .val (.int f0), .val (.int ln), .unset, .unset, .unset, .unset, .unset] [(.int (3 : Int32)), (.int a2)])) _
    refine XS.iand X0.here hx rfl (hb hby at_13) rfl ?_
    show Steps p.tables e below (s₁.setTop (mkF m 14 #[.val (.int x0), .val (.int s0), .val (.int a2), .val (.int f0), .val (.int ln), .unset, .unset, .unset, .unset, .unset] [(.int (a2 &&& (3 : Int32)))])) _
    refine XS.istore X0.here hx rfl (hb hby at_14) rfl (l' := #[.val (.int x0), .val (.int s0), .val (.int a2), .val (.int f0), .val (.int ln), .val (.int (a2 &&& (3 : Int32))), .unset, .unset, .unset, .unset]) rfl ?_
    show Steps p.tables e below (s₁.setTop (mkF m 16 #[.val (.int x0), .val (.int s0), .val (.int a2), .val (.int f0), .val (.int ln), .val (.int (a2 &&& (3 : Int32))), .unset, .unset, .unset, .unset] [])) _
    exact k
  obtain ⟨ap, hn_ap, pre4⟩ : ∃ ap : Int32, ap = (a2 &&& (3 : Int32)) ∧ ∀ t, Steps p.tables e below (s₁.setTop (mkF m 16 #[.val (.int x0), .val (.int s0), .val (.int a2), .val (.int f0), .val (.int ln), .val (.int ap), .unset, .unset, .unset, .unset] [])) t → Steps p.tables e below (s₁.setTop (entryFrame m #[(.int x0), (.int s0), (.int a2), (.int f0)] maxLocals)) t := ⟨_, rfl, pre3⟩
  have pre5 : ∀ t, Steps p.tables e below (s₁.setTop (mkF m 20 #[.val (.int x0), .val (.int s0), .val (.int a2), .val (.int f0), .val (.int ln), .val (.int ap), .val (.int (f0.toInt8.toInt32)), .unset, .unset, .unset] [])) t → Steps p.tables e below (s₁.setTop (entryFrame m #[(.int x0), (.int s0), (.int a2), (.int f0)] maxLocals)) t := by
    intro t k
    refine pre4 t ?_
    refine XS.iloadN X0.here hx rfl (hb hby at_16) rfl ?_
    show Steps p.tables e below (s₁.setTop (mkF m 17 #[.val (.int x0), .val (.int s0), .val (.int a2), .val (.int f0), .val (.int ln), .val (.int ap), .unset, .unset, .unset, .unset] [(.int f0)])) _
    refine XT.i2b X0.here hx rfl (hb hby at_17) rfl ?_
    show Steps p.tables e below (s₁.setTop (mkF m 18 #[.val (.int x0), .val (.int s0), .val (.int a2), .val (.int f0), .val (.int ln), .val (.int ap), .unset, .unset, .unset, .unset] [(.int (f0.toInt8.toInt32))])) _
    refine XS.istore X0.here hx rfl (hb hby at_18) rfl (l' := #[.val (.int x0), .val (.int s0), .val (.int a2), .val (.int f0), .val (.int ln), .val (.int ap), .val (.int (f0.toInt8.toInt32)), .unset, .unset, .unset]) rfl ?_
    show Steps p.tables e below (s₁.setTop (mkF m 20 #[.val (.int x0), .val (.int s0), .val (.int a2), .val (.int f0), .val (.int ln), .val (.int ap), .val (.int (f0.toInt8.toInt32)), .unset, .unset, .unset] [])) _
    exact k
  obtain ⟨fl, hn_fl, pre6⟩ : ∃ fl : Int32, fl = (f0.toInt8.toInt32) ∧ ∀ t, Steps p.tables e below (s₁.setTop (mkF m 20 #[.val (.int x0), .val (.int s0), .val (.int a2), .val (.int f0), .val (.int ln), .val (.int ap), .val (.int fl), .unset, .unset, .unset] [])) t → Steps p.tables e below (s₁.setTop (entryFrame m #[(.int x0), (.int s0), (.int a2), (.int f0)] maxLocals)) t := ⟨_, rfl, pre5⟩
  have hln : ¬ ln < 0 := own_ln hn_ln
  have hap := own_ap hn_ap
  have hfl : nar .byte fl = fl := by rw [hn_fl]; exact own_nb _
  have hfn : narrow .byte (.int fl) = .int fl := by rw [hn_fl]; exact XT.narrow_b _
  have pre8 : ∀ t, Steps p.tables e below (s₁.setTop (mkF m 22 #[.val (.int x0), .val (.int s0), .val (.int a2), .val (.int f0), .val (.int ln), .val (.int ap), .val (.int fl), .unset, .unset, .unset] [(.int (9 : Int32))])) t → Steps p.tables e below (s₁.setTop (entryFrame m #[(.int x0), (.int s0), (.int a2), (.int f0)] maxLocals)) t := by
    intro t k
    refine pre6 t ?_
    refine XS.bipush X0.here hx rfl (hb hby at_20) ?_
    show Steps p.tables e below (s₁.setTop (mkF m 22 #[.val (.int x0), .val (.int s0), .val (.int a2), .val (.int f0), .val (.int ln), .val (.int ap), .val (.int fl), .unset, .unset, .unset] [(.int (9 : Int32))])) _
    exact k
  obtain ⟨T9, h9, cA9, X9, e9, E9, A9, st9⟩ := newP X0 hx hZ (hw _ (List.mem_of_getElem? (i := 1) rfl)) e0 (g := (mkF m 22 #[.val (.int x0), .val (.int s0), .val (.int a2), .val (.int f0), .val (.int ln), .val (.int ap), .val (.int fl), .unset, .unset, .unset] [(.int (9 : Int32))])) rfl (hb hby at_22) rfl (by decide) (cap := 9) (by decide) (by decide) (by decide) (by decide)
  obtain ⟨b1, gz9⟩ : ∃ z, z = h0.size := ⟨_, rfl⟩
  rw [← gz9] at A9 st9
  have g_b1 : n0 ≤ b1 := Nat.le_trans Z0 (Nat.le_of_eq gz9.symm)
  have V9 : Arv Z h9 b1 cA9 .byte (9 : Int32) [(.int (0 : Int32)), (.int (0 : Int32)), (.int (0 : Int32)), (.int (0 : Int32)), (.int (0 : Int32)), (.int (0 : Int32)), (.int (0 : Int32)), (.int (0 : Int32)), (.int (0 : Int32))] (.int (0 : Int32)) := Arv.pad (Arv.new A9 (by decide)) (pad_rep [] (.int (0 : Int32)) 9)
  have pre10 : ∀ t, Steps p.tables e below (T9.setTop (mkF m 24 #[.val (.int x0), .val (.int s0), .val (.int a2), .val (.int f0), .val (.int ln), .val (.int ap), .val (.int fl), .unset, .unset, .unset] [(.ref b1)])) t → Steps p.tables e below (s₁.setTop (entryFrame m #[(.int x0), (.int s0), (.int a2), (.int f0)] maxLocals)) t := fun t k => pre8 t (st9 t k)
  have Z11 : n0 ≤ h9.size := (Nat.le_trans Z0 E9.1)
  have pre12 : ∀ t, Steps p.tables e below (T9.setTop (mkF m 31 #[.val (.int x0), .val (.int s0), .val (.int a2), .val (.int f0), .val (.int ln), .val (.int ap), .val (.int fl), .val (.ref b1), .unset, .unset] [(.int fl), (.int (0 : Int32)), (.ref b1)])) t → Steps p.tables e below (s₁.setTop (entryFrame m #[(.int x0), (.int s0), (.int a2), (.int f0)] maxLocals)) t := by
    intro t k
    refine pre10 t ?_
    refine XS.astore X9.here hx rfl (hb hby at_24) rfl rfl (l' := #[.val (.int x0), .val (.int s0), .val (.int a2), .val (.int f0), .val (.int ln), .val (.int ap), .val (.int fl), .val (.ref b1), .unset, .unset]) rfl ?_
    show Steps p.tables e below (T9.setTop (mkF m 26 #[.val (.int x0), .val (.int s0), .val (.int a2), .val (.int f0), .val (.int ln), .val (.int ap), .val (.int fl), .val (.ref b1), .unset, .unset] [])) _
    refine XS.aload X9.here hx rfl (hb hby at_26) rfl rfl ?_
    show Steps p.tables e below (T9.setTop (mkF m 28 #[.val (.int x0), .val (.int s0), .val (.int a2), .val (.int f0), .val (.int ln), .val (.int ap), .val (.int fl), .val (.ref b1), .unset, .unset] [(.ref b1)])) _
    refine XS.iconst X9.here hx rfl (hb hby at_28) ?_
    show Steps p.tables e below (T9.setTop (mkF m 29 #[.val (.int x0), .val (.int s0), .val (.int a2), .val (.int f0), .val (.int ln), .val (.int ap), .val (.int fl), .val (.ref b1), .unset, .unset] [(.int (0 : Int32)), (.ref b1)])) _
    refine XS.iload X9.here hx rfl (hb hby at_29) rfl ?_
    show Steps p.tables e below (T9.setTop (mkF m 31 #[.val (.int x0), .val (.int s0), .val (.int a2), .val (.int f0), .val (.int ln), .val (.int ap), .val (.int fl), .val (.ref b1), .unset, .unset] [(.int fl), (.int (0 : Int32)), (.ref b1)])) _
    exact k
  obtain ⟨cc13, Ar13, q1_13, Sz13, q3_13, Hs13, G13⟩ := id V9
  have hin13 : ¬ ((0 : Int32) < 0 ∨ cc13.slots.size ≤ ((0 : Int32) : Int32).toNatClampNeg) := inb_of Sz13 ⟨(by decide), (by decide)⟩
  obtain ⟨T13, h13, X13, e13, W13, st13⟩ := stB X9 hx hZ e9 Ar13 hin13 (g := (mkF m 31 #[.val (.int x0), .val (.int s0), .val (.int a2), .val (.int f0), .val (.int ln), .val (.int ap), .val (.int fl), .val (.ref b1), .unset, .unset] [(.int fl), (.int (0 : Int32)), (.ref b1)])) rfl rfl (hb hby at_31)
  have N13 := Fr.snoc X13 N0 g_b1
  have V13 : Arv Z h13 b1 cA9 .byte (9 : Int32) [(.int (nar .byte fl)), (.int (0 : Int32)), (.int (0 : Int32)), (.int (0 : Int32)), (.int (0 : Int32)), (.int (0 : Int32)), (.int (0 : Int32)), (.int (0 : Int32)), (.int (0 : Int32))] (.int (0 : Int32)) := Arv.set Ar13 q1_13 Sz13 q3_13 Hs13 G13 (fits_nar_byte _) W13 0 (by decide) (show 0 < 9 by decide)
  have pre15 : ∀ t, Steps p.tables e below (T13.setTop (mkF m 32 #[.val (.int x0), .val (.int s0), .val (.int a2), .val (.int f0), .val (.int ln), .val (.int ap), .val (.int fl), .val (.ref b1), .unset, .unset] [])) t → Steps p.tables e below (s₁.setTop (entryFrame m #[(.int x0), (.int s0), (.int a2), (.int f0)] maxLocals)) t := fun t k => pre12 t (st13 t k)
  have Z16 : n0 ≤ h13.size := (Nat.le_trans Z11 (Nat.le_of_eq W13.size.symm))
  have pre17 : ∀ t, Steps p.tables e below (T13.setTop (mkF m 37 #[.val (.int x0), .val (.int s0), .val (.int a2), .val (.int f0), .val (.int ln), .val (.int ap), .val (.int fl), .val (.ref b1), .unset, .unset] [(.int fl), (.int (1 : Int32)), (.ref b1)])) t → Steps p.tables e below (s₁.setTop (entryFrame m #[(.int x0), (.int s0), (.int a2), (.int f0)] maxLocals)) t := by
    intro t k
    refine pre15 t ?_
    refine XS.aload X13.here hx rfl (hb hby at_32) rfl rfl ?_
    show Steps p.tables e below (T13.setTop (mkF m 34 #[.val (.int x0), .val (.int s0), .val (.int a2), .val (.int f0), .val (.int ln), .val (.int ap), .val (.int fl), .val (.ref b1), .unset, .unset] [(.ref b1)])) _
    refine XS.iconst X13.here hx rfl (hb hby at_34) ?_
    show Steps p.tables e below (T13.setTop (mkF m 35 #[.val (.int x0), .val (.int s0), .val (.int a2), .val (.int f0), .val (.int ln), .val (.int ap), .val (.int fl), .val (.ref b1), .unset, .unset] [(.int (1 : Int32)), (.ref b1)])) _
    refine XS.iload X13.here hx rfl (hb hby at_35) rfl ?_
    show Steps p.tables e below (T13.setTop (mkF m 37 #[.val (.int x0), .val (.int s0), .val (.int a2), .val (.int f0), .val (.int ln), .val (.int ap), .val (.int fl), .val (.ref b1), .unset, .unset] [(.int fl), (.int (1 : Int32)), (.ref b1)])) _
    exact k
  obtain ⟨cc18, Ar18, q1_18, Sz18, q3_18, Hs18, G18⟩ := id V13
  have hin18 : ¬ ((1 : Int32) < 0 ∨ cc18.slots.size ≤ ((1 : Int32) : Int32).toNatClampNeg) := inb_of Sz18 ⟨(by decide), (by decide)⟩
  obtain ⟨T18, h18, X18, e18, W18, st18⟩ := stB X13 hx hZ e13 Ar18 hin18 (g := (mkF m 37 #[.val (.int x0), .val (.int s0), .val (.int a2), .val (.int f0), .val (.int ln), .val (.int ap), .val (.int fl), .val (.ref b1), .unset, .unset] [(.int fl), (.int (1 : Int32)), (.ref b1)])) rfl rfl (hb hby at_37)
  have N18 := Fr.snoc X18 N13 g_b1
  have V18 : Arv Z h18 b1 cA9 .byte (9 : Int32) [(.int (nar .byte fl)), (.int (nar .byte fl)), (.int (0 : Int32)), (.int (0 : Int32)), (.int (0 : Int32)), (.int (0 : Int32)), (.int (0 : Int32)), (.int (0 : Int32)), (.int (0 : Int32))] (.int (0 : Int32)) := Arv.set Ar18 q1_18 Sz18 q3_18 Hs18 G18 (fits_nar_byte _) W18 1 (by decide) (show 1 < 9 by decide)
  have pre20 : ∀ t, Steps p.tables e below (T18.setTop (mkF m 38 #[.val (.int x0), .val (.int s0), .val (.int a2), .val (.int f0), .val (.int ln), .val (.int ap), .val (.int fl), .val (.ref b1), .unset, .unset] [])) t → Steps p.tables e below (s₁.setTop (entryFrame m #[(.int x0), (.int s0), (.int a2), (.int f0)] maxLocals)) t := fun t k => pre17 t (st18 t k)
  have Z21 : n0 ≤ h18.size := (Nat.le_trans Z16 (Nat.le_of_eq W18.size.symm))
  have pre22 : ∀ t, Steps p.tables e below (T18.setTop (mkF m 43 #[.val (.int x0), .val (.int s0), .val (.int a2), .val (.int f0), .val (.int ln), .val (.int ap), .val (.int fl), .val (.ref b1), .unset, .unset] [(.int fl), (.int (2 : Int32)), (.ref b1)])) t → Steps p.tables e below (s₁.setTop (entryFrame m #[(.int x0), (.int s0), (.int a2), (.int f0)] maxLocals)) t := by
    intro t k
    refine pre20 t ?_
    refine XS.aload X18.here hx rfl (hb hby at_38) rfl rfl ?_
    show Steps p.tables e below (T18.setTop (mkF m 40 #[.val (.int x0), .val (.int s0), .val (.int a2), .val (.int f0), .val (.int ln), .val (.int ap), .val (.int fl), .val (.ref b1), .unset, .unset] [(.ref b1)])) _
    refine XS.iconst X18.here hx rfl (hb hby at_40) ?_
    show Steps p.tables e below (T18.setTop (mkF m 41 #[.val (.int x0), .val (.int s0), .val (.int a2), .val (.int f0), .val (.int ln), .val (.int ap), .val (.int fl), .val (.ref b1), .unset, .unset] [(.int (2 : Int32)), (.ref b1)])) _
    refine XS.iload X18.here hx rfl (hb hby at_41) rfl ?_
    show Steps p.tables e below (T18.setTop (mkF m 43 #[.val (.int x0), .val (.int s0), .val (.int a2), .val (.int f0), .val (.int ln), .val (.int ap), .val (.int fl), .val (.ref b1), .unset, .unset] [(.int fl), (.int (2 : Int32)), (.ref b1)])) _
    exact k
  obtain ⟨cc23, Ar23, q1_23, Sz23, q3_23, Hs23, G23⟩ := id V18
  have hin23 : ¬ ((2 : Int32) < 0 ∨ cc23.slots.size ≤ ((2 : Int32) : Int32).toNatClampNeg) := inb_of Sz23 ⟨(by decide), (by decide)⟩
  obtain ⟨T23, h23, X23, e23, W23, st23⟩ := stB X18 hx hZ e18 Ar23 hin23 (g := (mkF m 43 #[.val (.int x0), .val (.int s0), .val (.int a2), .val (.int f0), .val (.int ln), .val (.int ap), .val (.int fl), .val (.ref b1), .unset, .unset] [(.int fl), (.int (2 : Int32)), (.ref b1)])) rfl rfl (hb hby at_43)
  have N23 := Fr.snoc X23 N18 g_b1
  have V23 : Arv Z h23 b1 cA9 .byte (9 : Int32) [(.int (nar .byte fl)), (.int (nar .byte fl)), (.int (nar .byte fl)), (.int (0 : Int32)), (.int (0 : Int32)), (.int (0 : Int32)), (.int (0 : Int32)), (.int (0 : Int32)), (.int (0 : Int32))] (.int (0 : Int32)) := Arv.set Ar23 q1_23 Sz23 q3_23 Hs23 G23 (fits_nar_byte _) W23 2 (by decide) (show 2 < 9 by decide)
  have pre25 : ∀ t, Steps p.tables e below (T23.setTop (mkF m 44 #[.val (.int x0), .val (.int s0), .val (.int a2), .val (.int f0), .val (.int ln), .val (.int ap), .val (.int fl), .val (.ref b1), .unset, .unset] [])) t → Steps p.tables e below (s₁.setTop (entryFrame m #[(.int x0), (.int s0), (.int a2), (.int f0)] maxLocals)) t := fun t k => pre22 t (st23 t k)
  have Z26 : n0 ≤ h23.size := (Nat.le_trans Z21 (Nat.le_of_eq W23.size.symm))
  have pre27 : ∀ t, Steps p.tables e below (T23.setTop (mkF m 49 #[.val (.int x0), .val (.int s0), .val (.int a2), .val (.int f0), .val (.int ln), .val (.int ap), .val (.int fl), .val (.ref b1), .unset, .unset] [(.int fl), (.int (3 : Int32)), (.ref b1)])) t → Steps p.tables e below (s₁.setTop (entryFrame m #[(.int x0), (.int s0), (.int a2), (.int f0)] maxLocals)) t := by
    intro t k
    refine pre25 t ?_
    refine XS.aload X23.here hx rfl (hb hby at_44) rfl rfl ?_
    show Steps p.tables e below (T23.setTop (mkF m 46 #[.val (.int x0), .val (.int s0), .val (.int a2), .val (.int f0), .val (.int ln), .val (.int ap), .val (.int fl), .val (.ref b1), .unset, .unset] [(.ref b1)])) _
    refine XS.iconst X23.here hx rfl (hb hby at_46) ?_
    show Steps p.tables e below (T23.setTop (mkF m 47 #[.val (.int x0), .val (.int s0), .val (.int a2), .val (.int f0), .val (.int ln), .val (.int ap), .val (.int fl), .val (.ref b1), .unset, .unset] [(.int (3 : Int32)), (.ref b1)])) _
    refine XS.iload X23.here hx rfl (hb hby at_47) rfl ?_
    show Steps p.tables e below (T23.setTop (mkF m 49 #[.val (.int x0), .val (.int s0), .val (.int a2), .val (.int f0), .val (.int ln), .val (.int ap), .val (.int fl), .val (.ref b1), .unset, .unset] [(.int fl), (.int (3 : Int32)), (.ref b1)])) _
    exact k
  obtain ⟨cc28, Ar28, q1_28, Sz28, q3_28, Hs28, G28⟩ := id V23
  have hin28 : ¬ ((3 : Int32) < 0 ∨ cc28.slots.size ≤ ((3 : Int32) : Int32).toNatClampNeg) := inb_of Sz28 ⟨(by decide), (by decide)⟩
  obtain ⟨T28, h28, X28, e28, W28, st28⟩ := stB X23 hx hZ e23 Ar28 hin28 (g := (mkF m 49 #[.val (.int x0), .val (.int s0), .val (.int a2), .val (.int f0), .val (.int ln), .val (.int ap), .val (.int fl), .val (.ref b1), .unset, .unset] [(.int fl), (.int (3 : Int32)), (.ref b1)])) rfl rfl (hb hby at_49)
  have N28 := Fr.snoc X28 N23 g_b1
  have V28 : Arv Z h28 b1 cA9 .byte (9 : Int32) [(.int (nar .byte fl)), (.int (nar .byte fl)), (.int (nar .byte fl)), (.int (nar .byte fl)), (.int (0 : Int32)), (.int (0 : Int32)), (.int (0 : Int32)), (.int (0 : Int32)), (.int (0 : Int32))] (.int (0 : Int32)) := Arv.set Ar28 q1_28 Sz28 q3_28 Hs28 G28 (fits_nar_byte _) W28 3 (by decide) (show 3 < 9 by decide)
  have pre30 : ∀ t, Steps p.tables e below (T28.setTop (mkF m 50 #[.val (.int x0), .val (.int s0), .val (.int a2), .val (.int f0), .val (.int ln), .val (.int ap), .val (.int fl), .val (.ref b1), .unset, .unset] [])) t → Steps p.tables e below (s₁.setTop (entryFrame m #[(.int x0), (.int s0), (.int a2), (.int f0)] maxLocals)) t := fun t k => pre27 t (st28 t k)
  have Z31 : n0 ≤ h28.size := (Nat.le_trans Z26 (Nat.le_of_eq W28.size.symm))
  have pre32 : ∀ t, Steps p.tables e below (T28.setTop (mkF m 55 #[.val (.int x0), .val (.int s0), .val (.int a2), .val (.int f0), .val (.int ln), .val (.int ap), .val (.int fl), .val (.ref b1), .unset, .unset] [(.int fl), (.int (4 : Int32)), (.ref b1)])) t → Steps p.tables e below (s₁.setTop (entryFrame m #[(.int x0), (.int s0), (.int a2), (.int f0)] maxLocals)) t := by
    intro t k
    refine pre30 t ?_
    refine XS.aload X28.here hx rfl (hb hby at_50) rfl rfl ?_
    show Steps p.tables e below (T28.setTop (mkF m 52 #[.val (.int x0), .val (.int s0), .val (.int a2), .val (.int f0), .val (.int ln), .val (.int ap), .val (.int fl), .val (.ref b1), .unset, .unset] [(.ref b1)])) _
    refine XS.iconst X28.here hx rfl (hb hby at_52) ?_
    show Steps p.tables e below (T28.setTop (mkF m 53 #[.val (.int x0), .val (.int s0), .val (.int a2), .val (.int f0), .val (.int ln), .val (.int ap), .val (.int fl), .val (.ref b1), .unset, .unset] [(.int (4 : Int32)), (.ref b1)])) _
    refine XS.iload X28.here hx rfl (hb hby at_53) rfl ?_
    show Steps p.tables e below (T28.setTop (mkF m 55 #[.val (.int x0), .val (.int s0), .val (.int a2), .val (.int f0), .val (.int ln), .val (.int ap), .val (.int fl), .val (.ref b1), .unset, .unset] [(.int fl), (.int (4 : Int32)), (.ref b1)])) _
    exact k
  obtain ⟨cc33, Ar33, q1_33, Sz33, q3_33, Hs33, G33⟩ := id V28
  have hin33 : ¬ ((4 : Int32) < 0 ∨ cc33.slots.size ≤ ((4 : Int32) : Int32).toNatClampNeg) := inb_of Sz33 ⟨(by decide), (by decide)⟩
  obtain ⟨T33, h33, X33, e33, W33, st33⟩ := stB X28 hx hZ e28 Ar33 hin33 (g := (mkF m 55 #[.val (.int x0), .val (.int s0), .val (.int a2), .val (.int f0), .val (.int ln), .val (.int ap), .val (.int fl), .val (.ref b1), .unset, .unset] [(.int fl), (.int (4 : Int32)), (.ref b1)])) rfl rfl (hb hby at_55)
  have N33 := Fr.snoc X33 N28 g_b1
  have V33 : Arv Z h33 b1 cA9 .byte (9 : Int32) [(.int (nar .byte fl)), (.int (nar .byte fl)), (.int (nar .byte fl)), (.int (nar .byte fl)), (.int (nar .byte fl)), (.int (0 : Int32)), (.int (0 : Int32)), (.int (0 : Int32)), (.int (0 : Int32))] (.int (0 : Int32)) := Arv.set Ar33 q1_33 Sz33 q3_33 Hs33 G33 (fits_nar_byte _) W33 4 (by decide) (show 4 < 9 by decide)
  have pre35 : ∀ t, Steps p.tables e below (T33.setTop (mkF m 56 #[.val (.int x0), .val (.int s0), .val (.int a2), .val (.int f0), .val (.int ln), .val (.int ap), .val (.int fl), .val (.ref b1), .unset, .unset] [])) t → Steps p.tables e below (s₁.setTop (entryFrame m #[(.int x0), (.int s0), (.int a2), (.int f0)] maxLocals)) t := fun t k => pre32 t (st33 t k)
  have Z36 : n0 ≤ h33.size := (Nat.le_trans Z31 (Nat.le_of_eq W33.size.symm))
  have pre37 : ∀ t, Steps p.tables e below (T33.setTop (mkF m 61 #[.val (.int x0), .val (.int s0), .val (.int a2), .val (.int f0), .val (.int ln), .val (.int ap), .val (.int fl), .val (.ref b1), .unset, .unset] [(.int fl), (.int (5 : Int32)), (.ref b1)])) t → Steps p.tables e below (s₁.setTop (entryFrame m #[(.int x0), (.int s0), (.int a2), (.int f0)] maxLocals)) t := by
    intro t k
    refine pre35 t ?_
    refine XS.aload X33.here hx rfl (hb hby at_56) rfl rfl ?_
    show Steps p.tables e below (T33.setTop (mkF m 58 #[.val (.int x0), .val (.int s0), .val (.int a2), .val (.int f0), .val (.int ln), .val (.int ap), .val (.int fl), .val (.ref b1), .unset, .unset] [(.ref b1)])) _
    refine XS.iconst X33.here hx rfl (hb hby at_58) ?_
    show Steps p.tables e below (T33.setTop (mkF m 59 #[.val (.int x0), .val (.int s0), .val (.int a2), .val (.int f0), .val (.int ln), .val (.int ap), .val (.int fl), .val (.ref b1), .unset, .unset] [(.int (5 : Int32)), (.ref b1)])) _
    refine XS.iload X33.here hx rfl (hb hby at_59) rfl ?_
    show Steps p.tables e below (T33.setTop (mkF m 61 #[.val (.int x0), .val (.int s0), .val (.int a2), .val (.int f0), .val (.int ln), .val (.int ap), .val (.int fl), .val (.ref b1), .unset, .unset] [(.int fl), (.int (5 : Int32)), (.ref b1)])) _
    exact k
  obtain ⟨cc38, Ar38, q1_38, Sz38, q3_38, Hs38, G38⟩ := id V33
  have hin38 : ¬ ((5 : Int32) < 0 ∨ cc38.slots.size ≤ ((5 : Int32) : Int32).toNatClampNeg) := inb_of Sz38 ⟨(by decide), (by decide)⟩
  obtain ⟨T38, h38, X38, e38, W38, st38⟩ := stB X33 hx hZ e33 Ar38 hin38 (g := (mkF m 61 #[.val (.int x0), .val (.int s0), .val (.int a2), .val (.int f0), .val (.int ln), .val (.int ap), .val (.int fl), .val (.ref b1), .unset, .unset] [(.int fl), (.int (5 : Int32)), (.ref b1)])) rfl rfl (hb hby at_61)
  have N38 := Fr.snoc X38 N33 g_b1
  have V38 : Arv Z h38 b1 cA9 .byte (9 : Int32) [(.int (nar .byte fl)), (.int (nar .byte fl)), (.int (nar .byte fl)), (.int (nar .byte fl)), (.int (nar .byte fl)), (.int (nar .byte fl)), (.int (0 : Int32)), (.int (0 : Int32)), (.int (0 : Int32))] (.int (0 : Int32)) := Arv.set Ar38 q1_38 Sz38 q3_38 Hs38 G38 (fits_nar_byte _) W38 5 (by decide) (show 5 < 9 by decide)
  have pre40 : ∀ t, Steps p.tables e below (T38.setTop (mkF m 62 #[.val (.int x0), .val (.int s0), .val (.int a2), .val (.int f0), .val (.int ln), .val (.int ap), .val (.int fl), .val (.ref b1), .unset, .unset] [])) t → Steps p.tables e below (s₁.setTop (entryFrame m #[(.int x0), (.int s0), (.int a2), (.int f0)] maxLocals)) t := fun t k => pre37 t (st38 t k)
  have Z41 : n0 ≤ h38.size := (Nat.le_trans Z36 (Nat.le_of_eq W38.size.symm))
  have pre42 : ∀ t, Steps p.tables e below (T38.setTop (mkF m 68 #[.val (.int x0), .val (.int s0), .val (.int a2), .val (.int f0), .val (.int ln), .val (.int ap), .val (.int fl), .val (.ref b1), .unset, .unset] [(.int fl), (.int (6 : Int32)), (.ref b1)])) t → Steps p.tables e below (s₁.setTop (entryFrame m #[(.int x0), (.int s0), (.int a2), (.int f0)] maxLocals)) t := by
    intro t k
    refine pre40 t ?_
    refine XS.aload X38.here hx rfl (hb hby at_62) rfl rfl ?_
    show Steps p.tables e below (T38.setTop (mkF m 64 #[.val (.int x0), .val (.int s0), .val (.int a2), .val (.int f0), .val (.int ln), .val (.int ap), .val (.int fl), .val (.ref b1), .unset, .unset] [(.ref b1)])) _
    refine XS.bipush X38.here hx rfl (hb hby at_64) ?_
    show Steps p.tables e below (T38.setTop (mkF m 66 #[.val (.int x0), .val (.int s0), .val (.int a2), .val (.int f0), .val (.int ln), .val (.int ap), .val (.int fl), .val (.ref b1), .unset, .unset] [(.int (6 : Int32)), (.ref b1)])) _
    refine XS.iload X38.here hx rfl (hb hby at_66) rfl ?_
    show Steps p.tables e below (T38.setTop (mkF m 68 #[.val (.int x0), .val (.int s0), .val (.int a2), .val (.int f0), .val (.int ln), .val (.int ap), .val (.int fl), .val (.ref b1), .unset, .unset] [(.int fl), (.int (6 : Int32)), (.ref b1)])) _
    exact k
  obtain ⟨cc43, Ar43, q1_43, Sz43, q3_43, Hs43, G43⟩ := id V38
  have hin43 : ¬ ((6 : Int32) < 0 ∨ cc43.slots.size ≤ ((6 : Int32) : Int32).toNatClampNeg) := inb_of Sz43 ⟨(by decide), (by decide)⟩
  obtain ⟨T43, h43, X43, e43, W43, st43⟩ := stB X38 hx hZ e38 Ar43 hin43 (g := (mkF m 68 #[.val (.int x0), .val (.int s0), .val (.int a2), .val (.int f0), .val (.int ln), .val (.int ap), .val (.int fl), .val (.ref b1), .unset, .unset] [(.int fl), (.int (6 : Int32)), (.ref b1)])) rfl rfl (hb hby at_68)
  have N43 := Fr.snoc X43 N38 g_b1
  have V43 : Arv Z h43 b1 cA9 .byte (9 : Int32) [(.int (nar .byte fl)), (.int (nar .byte fl)), (.int (nar .byte fl)), (.int (nar .byte fl)), (.int (nar .byte fl)), (.int (nar .byte fl)), (.int (nar .byte fl)), (.int (0 : Int32)), (.int (0 : Int32))] (.int (0 : Int32)) := Arv.set Ar43 q1_43 Sz43 q3_43 Hs43 G43 (fits_nar_byte _) W43 6 (by decide) (show 6 < 9 by decide)
  have pre45 : ∀ t, Steps p.tables e below (T43.setTop (mkF m 69 #[.val (.int x0), .val (.int s0), .val (.int a2), .val (.int f0), .val (.int ln), .val (.int ap), .val (.int fl), .val (.ref b1), .unset, .unset] [])) t → Steps p.tables e below (s₁.setTop (entryFrame m #[(.int x0), (.int s0), (.int a2), (.int f0)] maxLocals)) t := fun t k => pre42 t (st43 t k)
  have Z46 : n0 ≤ h43.size := (Nat.le_trans Z41 (Nat.le_of_eq W43.size.symm))
  have pre47 : ∀ t, Steps p.tables e below (T43.setTop (mkF m 75 #[.val (.int x0), .val (.int s0), .val (.int a2), .val (.int f0), .val (.int ln), .val (.int ap), .val (.int fl), .val (.ref b1), .unset, .unset] [(.int fl), (.int (7 : Int32)), (.ref b1)])) t → Steps p.tables e below (s₁.setTop (entryFrame m #[(.int x0), (.int s0), (.int a2), (.int f0)] maxLocals)) t := by
    intro t k
    refine pre45 t ?_
    refine XS.aload X43.here hx rfl (hb hby at_69) rfl rfl ?_
    show Steps p.tables e below (T43.setTop (mkF m 71 #[.val (.int x0), .val (.int s0), .val (.int a2), .val (.int f0), .val (.int ln), .val (.int ap), .val (.int fl), .val (.ref b1), .unset, .unset] [(.ref b1)])) _
    refine XS.bipush X43.here hx rfl (hb hby at_71) ?_
    show Steps p.tables e below (T43.setTop (mkF m 73 #[.val (.int x0), .val (.int s0), .val (.int a2), .val (.int f0), .val (.int ln), .val (.int ap), .val (.int fl), .val (.ref b1), .unset, .unset] [(.int (7 : Int32)), (.ref b1)])) _
    refine XS.iload X43.here hx rfl (hb hby at_73) rfl ?_
    show Steps p.tables e below (T43.setTop (mkF m 75 #[.val (.int x0), .val (.int s0), .val (.int a2), .val (.int f0), .val (.int ln), .val (.int ap), .val (.int fl), .val (.ref b1), .unset, .unset] [(.int fl), (.int (7 : Int32)), (.ref b1)])) _
    exact k
  obtain ⟨cc48, Ar48, q1_48, Sz48, q3_48, Hs48, G48⟩ := id V43
  have hin48 : ¬ ((7 : Int32) < 0 ∨ cc48.slots.size ≤ ((7 : Int32) : Int32).toNatClampNeg) := inb_of Sz48 ⟨(by decide), (by decide)⟩
  obtain ⟨T48, h48, X48, e48, W48, st48⟩ := stB X43 hx hZ e43 Ar48 hin48 (g := (mkF m 75 #[.val (.int x0), .val (.int s0), .val (.int a2), .val (.int f0), .val (.int ln), .val (.int ap), .val (.int fl), .val (.ref b1), .unset, .unset] [(.int fl), (.int (7 : Int32)), (.ref b1)])) rfl rfl (hb hby at_75)
  have N48 := Fr.snoc X48 N43 g_b1
  have V48 : Arv Z h48 b1 cA9 .byte (9 : Int32) [(.int (nar .byte fl)), (.int (nar .byte fl)), (.int (nar .byte fl)), (.int (nar .byte fl)), (.int (nar .byte fl)), (.int (nar .byte fl)), (.int (nar .byte fl)), (.int (nar .byte fl)), (.int (0 : Int32))] (.int (0 : Int32)) := Arv.set Ar48 q1_48 Sz48 q3_48 Hs48 G48 (fits_nar_byte _) W48 7 (by decide) (show 7 < 9 by decide)
  have pre50 : ∀ t, Steps p.tables e below (T48.setTop (mkF m 76 #[.val (.int x0), .val (.int s0), .val (.int a2), .val (.int f0), .val (.int ln), .val (.int ap), .val (.int fl), .val (.ref b1), .unset, .unset] [])) t → Steps p.tables e below (s₁.setTop (entryFrame m #[(.int x0), (.int s0), (.int a2), (.int f0)] maxLocals)) t := fun t k => pre47 t (st48 t k)
  have Z51 : n0 ≤ h48.size := (Nat.le_trans Z46 (Nat.le_of_eq W48.size.symm))
  have pre52 : ∀ t, Steps p.tables e below (T48.setTop (mkF m 82 #[.val (.int x0), .val (.int s0), .val (.int a2), .val (.int f0), .val (.int ln), .val (.int ap), .val (.int fl), .val (.ref b1), .unset, .unset] [(.int fl), (.int (8 : Int32)), (.ref b1)])) t → Steps p.tables e below (s₁.setTop (entryFrame m #[(.int x0), (.int s0), (.int a2), (.int f0)] maxLocals)) t := by
    intro t k
    refine pre50 t ?_
    refine XS.aload X48.here hx rfl (hb hby at_76) rfl rfl ?_
    show Steps p.tables e below (T48.setTop (mkF m 78 #[.val (.int x0), .val (.int s0), .val (.int a2), .val (.int f0), .val (.int ln), .val (.int ap), .val (.int fl), .val (.ref b1), .unset, .unset] [(.ref b1)])) _
    refine XS.bipush X48.here hx rfl (hb hby at_78) ?_
    show Steps p.tables e below (T48.setTop (mkF m 80 #[.val (.int x0), .val (.int s0), .val (.int a2), .val (.int f0), .val (.int ln), .val (.int ap), .val (.int fl), .val (.ref b1), .unset, .unset] [(.int (8 : Int32)), (.ref b1)])) _
    refine XS.iload X48.here hx rfl (hb hby at_80) rfl ?_
    show Steps p.tables e below (T48.setTop (mkF m 82 #[.val (.int x0), .val (.int s0), .val (.int a2), .val (.int f0), .val (.int ln), .val (.int ap), .val (.int fl), .val (.ref b1), .unset, .unset] [(.int fl), (.int (8 : Int32)), (.ref b1)])) _
    exact k
  obtain ⟨cc53, Ar53, q1_53, Sz53, q3_53, Hs53, G53⟩ := id V48
  have hin53 : ¬ ((8 : Int32) < 0 ∨ cc53.slots.size ≤ ((8 : Int32) : Int32).toNatClampNeg) := inb_of Sz53 ⟨(by decide), (by decide)⟩
  obtain ⟨T53, h53, X53, e53, W53, st53⟩ := stB X48 hx hZ e48 Ar53 hin53 (g := (mkF m 82 #[.val (.int x0), .val (.int s0), .val (.int a2), .val (.int f0), .val (.int ln), .val (.int ap), .val (.int fl), .val (.ref b1), .unset, .unset] [(.int fl), (.int (8 : Int32)), (.ref b1)])) rfl rfl (hb hby at_82)
  have N53 := Fr.snoc X53 N48 g_b1
  have V53 : Arv Z h53 b1 cA9 .byte (9 : Int32) [(.int (nar .byte fl)), (.int (nar .byte fl)), (.int (nar .byte fl)), (.int (nar .byte fl)), (.int (nar .byte fl)), (.int (nar .byte fl)), (.int (nar .byte fl)), (.int (nar .byte fl)), (.int (nar .byte fl))] (.int (0 : Int32)) := Arv.set Ar53 q1_53 Sz53 q3_53 Hs53 G53 (fits_nar_byte _) W53 8 (by decide) (show 8 < 9 by decide)
  have pre55 : ∀ t, Steps p.tables e below (T53.setTop (mkF m 83 #[.val (.int x0), .val (.int s0), .val (.int a2), .val (.int f0), .val (.int ln), .val (.int ap), .val (.int fl), .val (.ref b1), .unset, .unset] [])) t → Steps p.tables e below (s₁.setTop (entryFrame m #[(.int x0), (.int s0), (.int a2), (.int f0)] maxLocals)) t := fun t k => pre52 t (st53 t k)
  have Z56 : n0 ≤ h53.size := (Nat.le_trans Z51 (Nat.le_of_eq W53.size.symm))
  have pre58 : ∀ t, Steps p.tables e below (T53.setTop (mkF m 89 #[.val (.int x0), .val (.int s0), .val (.int a2), .val (.int f0), .val (.int ln), .val (.int ap), .val (.int fl), .val (.ref b1), .unset, .unset] [(.int ln), (.int ap), (.ref b1)])) t → Steps p.tables e below (s₁.setTop (entryFrame m #[(.int x0), (.int s0), (.int a2), (.int f0)] maxLocals)) t := by
    intro t k
    refine pre55 t ?_
    refine XS.aload X53.here hx rfl (hb hby at_83) rfl rfl ?_
    show Steps p.tables e below (T53.setTop (mkF m 85 #[.val (.int x0), .val (.int s0), .val (.int a2), .val (.int f0), .val (.int ln), .val (.int ap), .val (.int fl), .val (.ref b1), .unset, .unset] [(.ref b1)])) _
    refine XS.iload X53.here hx rfl (hb hby at_85) rfl ?_
    show Steps p.tables e below (T53.setTop (mkF m 87 #[.val (.int x0), .val (.int s0), .val (.int a2), .val (.int f0), .val (.int ln), .val (.int ap), .val (.int fl), .val (.ref b1), .unset, .unset] [(.int ap), (.ref b1)])) _
    refine XS.iload X53.here hx rfl (hb hby at_87) rfl ?_
    show Steps p.tables e below (T53.setTop (mkF m 89 #[.val (.int x0), .val (.int s0), .val (.int a2), .val (.int f0), .val (.int ln), .val (.int ap), .val (.int fl), .val (.ref b1), .unset, .unset] [(.int ln), (.int ap), (.ref b1)])) _
    exact k
  have hz := own_law hap hln hfl
  obtain ⟨_, _, ⟨T60, L60, k60, n60⟩, -, X60, ⟨Lc60, hQ60, l60, y60, z60⟩, st60⟩ := Jvm.LawKit.callS X53 hx (y := (⟨"com/example/sluice/sluice/state/SnapshotOutput", "putLength", "([BII)I"⟩ : MethodName)) hown (mvT hZ (hw _ (List.mem_of_getElem? (i := 2) rfl))) (mvT hZ (hw _ (List.mem_of_getElem? (i := 3) rfl))) (mvT hZ (hw _ (List.mem_of_getElem? (i := 4) rfl))) (mvT hZ (hw _ (List.mem_of_getElem? (i := 5) rfl))) (by decide) (backOf (W := 0) (rm1 l Z a0 hw [] b1 ap ln cA9 [(.int (nar .byte fl)), (.int (nar .byte fl)), (.int (nar .byte fl)), (.int (nar .byte fl)), (.int (nar .byte fl)), (.int (nar .byte fl)), (.int (nar .byte fl)), (.int (nar .byte fl)), (.int (nar .byte fl))] ap.toNatClampNeg h53 n0 Z56 V53 g_b1 rfl hap hln rfl) hZ (hw _ (List.mem_of_getElem? (i := 5) rfl)) (hw _ (List.mem_of_getElem? (i := 4) rfl)) (by decide) (by decide)) (g := (mkF m 89 #[.val (.int x0), .val (.int s0), .val (.int a2), .val (.int f0), .val (.int ln), .val (.int ap), .val (.int fl), .val (.ref b1), .unset, .unset] [(.int ln), (.int ap), (.ref b1)])) rfl (by rw [hml]; rfl) (argsL := [(.ref b1), (.int ap), (.int ln)]) (rest := []) (lenOf pd_pl rfl) rfl (by show 2 * 0 + _ ≤ _; exact Nat.le_of_eq rfl) (hb hby at_89) (fun _ _ => ⟨rfl, e53, (by decide : 1 + 0 ≤ _), (by decide : 9 + 0 ≤ _)⟩)
  dsimp only [Pt.U, Pt.locs, Pt.cells, Pt.slots] at X60 l60 y60 z60 st60 hQ60
  subst l60 y60 z60
  obtain ⟨rfl, Nq60, Kq60, Va60⟩ := hQ60
  have N60 := Fr.app N53 Nq60
  have pre61 : ∀ t, Steps p.tables e below (T60.setTop (mkF m 92 #[.val (.int x0), .val (.int s0), .val (.int a2), .val (.int f0), .val (.int ln), .val (.int ap), .val (.int fl), .val (.ref b1), .unset, .unset] [(.int (own_pl 4 ap ap.toNatClampNeg ln [(.int (nar .byte fl)), (.int (nar .byte fl)), (.int (nar .byte fl)), (.int (nar .byte fl)), (.int (nar .byte fl)), (.int (nar .byte fl)), (.int (nar .byte fl)), (.int (nar .byte fl)), (.int (nar .byte fl))]).1)])) t → Steps p.tables e below (s₁.setTop (entryFrame m #[(.int x0), (.int s0), (.int a2), (.int f0)] maxLocals)) t := fun t k => pre58 t (st60 t k)
  obtain ⟨h60, e60⟩ : ∃ z, T60.heap = z := ⟨_, rfl⟩
  rw [e60] at Kq60 Va60
  have Z62 : n0 ≤ h60.size := (Nat.le_trans Z56 Kq60.1)
  have pre64 : ∀ t, Steps p.tables e below (T60.setTop (mkF m 96 #[.val (.int x0), .val (.int s0), .val (.int a2), .val (.int f0), .val (.int ln), .val (.int ap), .val (.int fl), .val (.ref b1), .val (.int (own_pl 4 ap ap.toNatClampNeg ln [(.int (nar .byte fl)), (.int (nar .byte fl)), (.int (nar .byte fl)), (.int (nar .byte fl)), (.int (nar .byte fl)), (.int (nar .byte fl)), (.int (nar .byte fl)), (.int (nar .byte fl)), (.int (nar .byte fl))]).1), .unset] [(.int ln)])) t → Steps p.tables e below (s₁.setTop (entryFrame m #[(.int x0), (.int s0), (.int a2), (.int f0)] maxLocals)) t := by
    intro t k
    refine pre61 t ?_
    refine XS.istore X60.here hx rfl (hb hby at_92) rfl (l' := #[.val (.int x0), .val (.int s0), .val (.int a2), .val (.int f0), .val (.int ln), .val (.int ap), .val (.int fl), .val (.ref b1), .val (.int (own_pl 4 ap ap.toNatClampNeg ln [(.int (nar .byte fl)), (.int (nar .byte fl)), (.int (nar .byte fl)), (.int (nar .byte fl)), (.int (nar .byte fl)), (.int (nar .byte fl)), (.int (nar .byte fl)), (.int (nar .byte fl)), (.int (nar .byte fl))]).1), .unset]) rfl ?_
    show Steps p.tables e below (T60.setTop (mkF m 94 #[.val (.int x0), .val (.int s0), .val (.int a2), .val (.int f0), .val (.int ln), .val (.int ap), .val (.int fl), .val (.ref b1), .val (.int (own_pl 4 ap ap.toNatClampNeg ln [(.int (nar .byte fl)), (.int (nar .byte fl)), (.int (nar .byte fl)), (.int (nar .byte fl)), (.int (nar .byte fl)), (.int (nar .byte fl)), (.int (nar .byte fl)), (.int (nar .byte fl)), (.int (nar .byte fl))]).1), .unset] [])) _
    refine XS.iload X60.here hx rfl (hb hby at_94) rfl ?_
    show Steps p.tables e below (T60.setTop (mkF m 96 #[.val (.int x0), .val (.int s0), .val (.int a2), .val (.int f0), .val (.int ln), .val (.int ap), .val (.int fl), .val (.ref b1), .val (.int (own_pl 4 ap ap.toNatClampNeg ln [(.int (nar .byte fl)), (.int (nar .byte fl)), (.int (nar .byte fl)), (.int (nar .byte fl)), (.int (nar .byte fl)), (.int (nar .byte fl)), (.int (nar .byte fl)), (.int (nar .byte fl)), (.int (nar .byte fl))]).1), .unset] [(.int ln)])) _
    exact k
  obtain ⟨_, _, ⟨T65, L65, k65, n65⟩, -, X65, ⟨Lc65, hQ65, l65, y65, z65⟩, st65⟩ := Jvm.LawKit.callS X60 hx (y := (⟨"com/example/sluice/sluice/state/SnapshotOutputPutLengthPinLaw", "count", "(I)I"⟩ : MethodName)) hown (mvT hZ (hw _ (List.mem_of_getElem? (i := 6) rfl))) (mvT hZ (hw _ (List.mem_of_getElem? (i := 7) rfl))) (mvT hZ (hw _ (List.mem_of_getElem? (i := 8) rfl))) (mvT hZ (hw _ (List.mem_of_getElem? (i := 9) rfl))) (by decide) (backOf (W := 0) (rm2 l Z a0 hw [] ln h60 n0 Z62) hZ (hw _ (List.mem_of_getElem? (i := 9) rfl)) (hw _ (List.mem_of_getElem? (i := 8) rfl)) (by decide) (by decide)) (g := (mkF m 96 #[.val (.int x0), .val (.int s0), .val (.int a2), .val (.int f0), .val (.int ln), .val (.int ap), .val (.int fl), .val (.ref b1), .val (.int (own_pl 4 ap ap.toNatClampNeg ln [(.int (nar .byte fl)), (.int (nar .byte fl)), (.int (nar .byte fl)), (.int (nar .byte fl)), (.int (nar .byte fl)), (.int (nar .byte fl)), (.int (nar .byte fl)), (.int (nar .byte fl)), (.int (nar .byte fl))]).1), .unset] [(.int ln)])) rfl (by rw [hml]; rfl) (argsL := [(.int ln)]) (rest := []) (lenOf pd_cnt rfl) rfl (by show 2 * 0 + _ ≤ _; exact Nat.le_of_eq rfl) (hb hby at_96) (fun _ _ => ⟨rfl, e60, (by decide : 1 + 0 ≤ _), (by decide : 9 + 0 ≤ _)⟩)
  dsimp only [Pt.U, Pt.locs, Pt.cells, Pt.slots] at X65 l65 y65 z65 st65 hQ65
  subst l65 y65 z65
  obtain ⟨rfl, Nq65, heq65⟩ := hQ65
  have N65 := Fr.app N60 Nq65
  have pre66 : ∀ t, Steps p.tables e below (T65.setTop (mkF m 99 #[.val (.int x0), .val (.int s0), .val (.int a2), .val (.int f0), .val (.int ln), .val (.int ap), .val (.int fl), .val (.ref b1), .val (.int (own_pl 4 ap ap.toNatClampNeg ln [(.int (nar .byte fl)), (.int (nar .byte fl)), (.int (nar .byte fl)), (.int (nar .byte fl)), (.int (nar .byte fl)), (.int (nar .byte fl)), (.int (nar .byte fl)), (.int (nar .byte fl)), (.int (nar .byte fl))]).1), .unset] [(.int (own_cnt ln))])) t → Steps p.tables e below (s₁.setTop (entryFrame m #[(.int x0), (.int s0), (.int a2), (.int f0)] maxLocals)) t := fun t k => pre64 t (st65 t k)
  have pre67 : ∀ t, Steps p.tables e below (T65.setTop (mkF m 116 #[.val (.int x0), .val (.int s0), .val (.int a2), .val (.int f0), .val (.int ln), .val (.int ap), .val (.int fl), .val (.ref b1), .val (.int (own_pl 4 ap ap.toNatClampNeg ln [(.int (nar .byte fl)), (.int (nar .byte fl)), (.int (nar .byte fl)), (.int (nar .byte fl)), (.int (nar .byte fl)), (.int (nar .byte fl)), (.int (nar .byte fl)), (.int (nar .byte fl)), (.int (nar .byte fl))]).1), .val (.int (own_cnt ln))] [(.int (0 : Int32)), (.ref b1)])) t → Steps p.tables e below (s₁.setTop (entryFrame m #[(.int x0), (.int s0), (.int a2), (.int f0)] maxLocals)) t := by
    intro t k
    refine pre66 t ?_
    refine XS.istore X65.here hx rfl (hb hby at_99) rfl (l' := #[.val (.int x0), .val (.int s0), .val (.int a2), .val (.int f0), .val (.int ln), .val (.int ap), .val (.int fl), .val (.ref b1), .val (.int (own_pl 4 ap ap.toNatClampNeg ln [(.int (nar .byte fl)), (.int (nar .byte fl)), (.int (nar .byte fl)), (.int (nar .byte fl)), (.int (nar .byte fl)), (.int (nar .byte fl)), (.int (nar .byte fl)), (.int (nar .byte fl)), (.int (nar .byte fl))]).1), .val (.int (own_cnt ln))]) rfl ?_
    show Steps p.tables e below (T65.setTop (mkF m 101 #[.val (.int x0), .val (.int s0), .val (.int a2), .val (.int f0), .val (.int ln), .val (.int ap), .val (.int fl), .val (.ref b1), .val (.int (own_pl 4 ap ap.toNatClampNeg ln [(.int (nar .byte fl)), (.int (nar .byte fl)), (.int (nar .byte fl)), (.int (nar .byte fl)), (.int (nar .byte fl)), (.int (nar .byte fl)), (.int (nar .byte fl)), (.int (nar .byte fl)), (.int (nar .byte fl))]).1), .val (.int (own_cnt ln))] [])) _
    refine XS.iload X65.here hx rfl (hb hby at_101) rfl ?_
    show Steps p.tables e below (T65.setTop (mkF m 103 #[.val (.int x0), .val (.int s0), .val (.int a2), .val (.int f0), .val (.int ln), .val (.int ap), .val (.int fl), .val (.ref b1), .val (.int (own_pl 4 ap ap.toNatClampNeg ln [(.int (nar .byte fl)), (.int (nar .byte fl)), (.int (nar .byte fl)), (.int (nar .byte fl)), (.int (nar .byte fl)), (.int (nar .byte fl)), (.int (nar .byte fl)), (.int (nar .byte fl)), (.int (nar .byte fl))]).1), .val (.int (own_cnt ln))] [(.int (own_pl 4 ap ap.toNatClampNeg ln [(.int (nar .byte fl)), (.int (nar .byte fl)), (.int (nar .byte fl)), (.int (nar .byte fl)), (.int (nar .byte fl)), (.int (nar .byte fl)), (.int (nar .byte fl)), (.int (nar .byte fl)), (.int (nar .byte fl))]).1)])) _
    refine XS.iload X65.here hx rfl (hb hby at_103) rfl ?_
    show Steps p.tables e below (T65.setTop (mkF m 105 #[.val (.int x0), .val (.int s0), .val (.int a2), .val (.int f0), .val (.int ln), .val (.int ap), .val (.int fl), .val (.ref b1), .val (.int (own_pl 4 ap ap.toNatClampNeg ln [(.int (nar .byte fl)), (.int (nar .byte fl)), (.int (nar .byte fl)), (.int (nar .byte fl)), (.int (nar .byte fl)), (.int (nar .byte fl)), (.int (nar .byte fl)), (.int (nar .byte fl)), (.int (nar .byte fl))]).1), .val (.int (own_cnt ln))] [(.int ap), (.int (own_pl 4 ap ap.toNatClampNeg ln [(.int (nar .byte fl)), (.int (nar .byte fl)), (.int (nar .byte fl)), (.int (nar .byte fl)), (.int (nar .byte fl)), (.int (nar .byte fl)), (.int (nar .byte fl)), (.int (nar .byte fl)), (.int (nar .byte fl))]).1)])) _
    refine XS.iload X65.here hx rfl (hb hby at_105) rfl ?_
    show Steps p.tables e below (T65.setTop (mkF m 107 #[.val (.int x0), .val (.int s0), .val (.int a2), .val (.int f0), .val (.int ln), .val (.int ap), .val (.int fl), .val (.ref b1), .val (.int (own_pl 4 ap ap.toNatClampNeg ln [(.int (nar .byte fl)), (.int (nar .byte fl)), (.int (nar .byte fl)), (.int (nar .byte fl)), (.int (nar .byte fl)), (.int (nar .byte fl)), (.int (nar .byte fl)), (.int (nar .byte fl)), (.int (nar .byte fl))]).1), .val (.int (own_cnt ln))] [(.int (own_cnt ln)), (.int ap), (.int (own_pl 4 ap ap.toNatClampNeg ln [(.int (nar .byte fl)), (.int (nar .byte fl)), (.int (nar .byte fl)), (.int (nar .byte fl)), (.int (nar .byte fl)), (.int (nar .byte fl)), (.int (nar .byte fl)), (.int (nar .byte fl)), (.int (nar .byte fl))]).1)])) _
    refine XS.iadd X65.here hx rfl (hb hby at_107) rfl ?_
    show Steps p.tables e below (T65.setTop (mkF m 108 #[.val (.int x0), .val (.int s0), .val (.int a2), .val (.int f0), .val (.int ln), .val (.int ap), .val (.int fl), .val (.ref b1), .val (.int (own_pl 4 ap ap.toNatClampNeg ln [(.int (nar .byte fl)), (.int (nar .byte fl)), (.int (nar .byte fl)), (.int (nar .byte fl)), (.int (nar .byte fl)), (.int (nar .byte fl)), (.int (nar .byte fl)), (.int (nar .byte fl)), (.int (nar .byte fl))]).1), .val (.int (own_cnt ln))] [(.int (ap + (own_cnt ln))), (.int (own_pl 4 ap ap.toNatClampNeg ln [(.int (nar .byte fl)), (.int (nar .byte fl)), (.int (nar .byte fl)), (.int (nar .byte fl)), (.int (nar .byte fl)), (.int (nar .byte fl)), (.int (nar .byte fl)), (.int (nar .byte fl)), (.int (nar .byte fl))]).1)])) _
    refine XS.icmpYes X65.here hx rfl (pc0 := 108) (pc' := 113) rfl (hb hby at_108) rfl (XT.ii_eq_t hz.1) (by decide) (by decide) ?_
    show Steps p.tables e below (T65.setTop (mkF m 113 #[.val (.int x0), .val (.int s0), .val (.int a2), .val (.int f0), .val (.int ln), .val (.int ap), .val (.int fl), .val (.ref b1), .val (.int (own_pl 4 ap ap.toNatClampNeg ln [(.int (nar .byte fl)), (.int (nar .byte fl)), (.int (nar .byte fl)), (.int (nar .byte fl)), (.int (nar .byte fl)), (.int (nar .byte fl)), (.int (nar .byte fl)), (.int (nar .byte fl)), (.int (nar .byte fl))]).1), .val (.int (own_cnt ln))] [])) _
    refine XS.aload X65.here hx rfl (hb hby at_113) rfl rfl ?_
    show Steps p.tables e below (T65.setTop (mkF m 115 #[.val (.int x0), .val (.int s0), .val (.int a2), .val (.int f0), .val (.int ln), .val (.int ap), .val (.int fl), .val (.ref b1), .val (.int (own_pl 4 ap ap.toNatClampNeg ln [(.int (nar .byte fl)), (.int (nar .byte fl)), (.int (nar .byte fl)), (.int (nar .byte fl)), (.int (nar .byte fl)), (.int (nar .byte fl)), (.int (nar .byte fl)), (.int (nar .byte fl)), (.int (nar .byte fl))]).1), .val (.int (own_cnt ln))] [(.ref b1)])) _
    refine XS.iconst X65.here hx rfl (hb hby at_115) ?_
    show Steps p.tables e below (T65.setTop (mkF m 116 #[.val (.int x0), .val (.int s0), .val (.int a2), .val (.int f0), .val (.int ln), .val (.int ap), .val (.int fl), .val (.ref b1), .val (.int (own_pl 4 ap ap.toNatClampNeg ln [(.int (nar .byte fl)), (.int (nar .byte fl)), (.int (nar .byte fl)), (.int (nar .byte fl)), (.int (nar .byte fl)), (.int (nar .byte fl)), (.int (nar .byte fl)), (.int (nar .byte fl)), (.int (nar .byte fl))]).1), .val (.int (own_cnt ln))] [(.int (0 : Int32)), (.ref b1)])) _
    exact k
  obtain ⟨cc68, Ar68, q1_68, Sz68, q3_68, Hs68, G68⟩ := id Va60
  have hin68 : ¬ ((0 : Int32) < 0 ∨ cc68.slots.size ≤ ((0 : Int32) : Int32).toNatClampNeg) := inb_of Sz68 ⟨(by decide), (by decide)⟩
  have hat68 : cc68.slots[((0 : Int32) : Int32).toNatClampNeg]? = some (.int (own_ex (0 : Int32) ap ln (own_cnt ln) fl)) := Hs68.at hin68 hz.2.1
  have pre71 : ∀ t, Steps p.tables e below (T65.setTop (mkF m 126 #[.val (.int x0), .val (.int s0), .val (.int a2), .val (.int f0), .val (.int ln), .val (.int ap), .val (.int fl), .val (.ref b1), .val (.int (own_pl 4 ap ap.toNatClampNeg ln [(.int (nar .byte fl)), (.int (nar .byte fl)), (.int (nar .byte fl)), (.int (nar .byte fl)), (.int (nar .byte fl)), (.int (nar .byte fl)), (.int (nar .byte fl)), (.int (nar .byte fl)), (.int (nar .byte fl))]).1), .val (.int (own_cnt ln))] [(.int fl), (.int (own_cnt ln)), (.int ln), (.int ap), (.int (0 : Int32)), (.int (own_ex (0 : Int32) ap ln (own_cnt ln) fl))])) t → Steps p.tables e below (s₁.setTop (entryFrame m #[(.int x0), (.int s0), (.int a2), (.int f0)] maxLocals)) t := by
    intro t k
    refine pre67 t ?_
    refine X65.baloadBytes hx (j := (0 : Int32)) (v := (.int (own_ex (0 : Int32) ap ln (own_cnt ln) fl))) (by rw [heq65]; exact Ar68.1) (State.isArrayOf_alike hZ.alike Ar68.2.1) Ar68.2.2 hin68 hat68 (g := (mkF m 116 #[.val (.int x0), .val (.int s0), .val (.int a2), .val (.int f0), .val (.int ln), .val (.int ap), .val (.int fl), .val (.ref b1), .val (.int (own_pl 4 ap ap.toNatClampNeg ln [(.int (nar .byte fl)), (.int (nar .byte fl)), (.int (nar .byte fl)), (.int (nar .byte fl)), (.int (nar .byte fl)), (.int (nar .byte fl)), (.int (nar .byte fl)), (.int (nar .byte fl)), (.int (nar .byte fl))]).1), .val (.int (own_cnt ln))] [(.int (0 : Int32)), (.ref b1)])) rfl rfl (hb hby at_116) _ ?_
    show Steps p.tables e below (T65.setTop (mkF m 117 #[.val (.int x0), .val (.int s0), .val (.int a2), .val (.int f0), .val (.int ln), .val (.int ap), .val (.int fl), .val (.ref b1), .val (.int (own_pl 4 ap ap.toNatClampNeg ln [(.int (nar .byte fl)), (.int (nar .byte fl)), (.int (nar .byte fl)), (.int (nar .byte fl)), (.int (nar .byte fl)), (.int (nar .byte fl)), (.int (nar .byte fl)), (.int (nar .byte fl)), (.int (nar .byte fl))]).1), .val (.int (own_cnt ln))] [(.int (own_ex (0 : Int32) ap ln (own_cnt ln) fl))])) _
    refine XS.iconst X65.here hx rfl (hb hby at_117) ?_
    show Steps p.tables e below (T65.setTop (mkF m 118 #[.val (.int x0), .val (.int s0), .val (.int a2), .val (.int f0), .val (.int ln), .val (.int ap), .val (.int fl), .val (.ref b1), .val (.int (own_pl 4 ap ap.toNatClampNeg ln [(.int (nar .byte fl)), (.int (nar .byte fl)), (.int (nar .byte fl)), (.int (nar .byte fl)), (.int (nar .byte fl)), (.int (nar .byte fl)), (.int (nar .byte fl)), (.int (nar .byte fl)), (.int (nar .byte fl))]).1), .val (.int (own_cnt ln))] [(.int (0 : Int32)), (.int (own_ex (0 : Int32) ap ln (own_cnt ln) fl))])) _
    refine XS.iload X65.here hx rfl (hb hby at_118) rfl ?_
    show Steps p.tables e below (T65.setTop (mkF m 120 #[.val (.int x0), .val (.int s0), .val (.int a2), .val (.int f0), .val (.int ln), .val (.int ap), .val (.int fl), .val (.ref b1), .val (.int (own_pl 4 ap ap.toNatClampNeg ln [(.int (nar .byte fl)), (.int (nar .byte fl)), (.int (nar .byte fl)), (.int (nar .byte fl)), (.int (nar .byte fl)), (.int (nar .byte fl)), (.int (nar .byte fl)), (.int (nar .byte fl)), (.int (nar .byte fl))]).1), .val (.int (own_cnt ln))] [(.int ap), (.int (0 : Int32)), (.int (own_ex (0 : Int32) ap ln (own_cnt ln) fl))])) _
    refine XS.iload X65.here hx rfl (hb hby at_120) rfl ?_
    show Steps p.tables e below (T65.setTop (mkF m 122 #[.val (.int x0), .val (.int s0), .val (.int a2), .val (.int f0), .val (.int ln), .val (.int ap), .val (.int fl), .val (.ref b1), .val (.int (own_pl 4 ap ap.toNatClampNeg ln [(.int (nar .byte fl)), (.int (nar .byte fl)), (.int (nar .byte fl)), (.int (nar .byte fl)), (.int (nar .byte fl)), (.int (nar .byte fl)), (.int (nar .byte fl)), (.int (nar .byte fl)), (.int (nar .byte fl))]).1), .val (.int (own_cnt ln))] [(.int ln), (.int ap), (.int (0 : Int32)), (.int (own_ex (0 : Int32) ap ln (own_cnt ln) fl))])) _
    refine XS.iload X65.here hx rfl (hb hby at_122) rfl ?_
    show Steps p.tables e below (T65.setTop (mkF m 124 #[.val (.int x0), .val (.int s0), .val (.int a2), .val (.int f0), .val (.int ln), .val (.int ap), .val (.int fl), .val (.ref b1), .val (.int (own_pl 4 ap ap.toNatClampNeg ln [(.int (nar .byte fl)), (.int (nar .byte fl)), (.int (nar .byte fl)), (.int (nar .byte fl)), (.int (nar .byte fl)), (.int (nar .byte fl)), (.int (nar .byte fl)), (.int (nar .byte fl)), (.int (nar .byte fl))]).1), .val (.int (own_cnt ln))] [(.int (own_cnt ln)), (.int ln), (.int ap), (.int (0 : Int32)), (.int (own_ex (0 : Int32) ap ln (own_cnt ln) fl))])) _
    refine XS.iload X65.here hx rfl (hb hby at_124) rfl ?_
    show Steps p.tables e below (T65.setTop (mkF m 126 #[.val (.int x0), .val (.int s0), .val (.int a2), .val (.int f0), .val (.int ln), .val (.int ap), .val (.int fl), .val (.ref b1), .val (.int (own_pl 4 ap ap.toNatClampNeg ln [(.int (nar .byte fl)), (.int (nar .byte fl)), (.int (nar .byte fl)), (.int (nar .byte fl)), (.int (nar .byte fl)), (.int (nar .byte fl)), (.int (nar .byte fl)), (.int (nar .byte fl)), (.int (nar .byte fl))]).1), .val (.int (own_cnt ln))] [(.int fl), (.int (own_cnt ln)), (.int ln), (.int ap), (.int (0 : Int32)), (.int (own_ex (0 : Int32) ap ln (own_cnt ln) fl))])) _
    exact k
  obtain ⟨_, _, ⟨T73, L73, k73, n73⟩, -, X73, ⟨Lc73, hQ73, l73, y73, z73⟩, st73⟩ := Jvm.LawKit.callS X65 hx (y := (⟨"com/example/sluice/sluice/state/SnapshotOutputPutLengthPinLaw", "expected", "(IIIIB)B"⟩ : MethodName)) hown (mvT hZ (hw _ (List.mem_of_getElem? (i := 12) rfl))) (mvT hZ (hw _ (List.mem_of_getElem? (i := 13) rfl))) (mvT hZ (hw _ (List.mem_of_getElem? (i := 8) rfl))) (mvT hZ (hw _ (List.mem_of_getElem? (i := 14) rfl))) (by decide) (backOf (W := 1) (rm3 l Z a0 hw [] (0 : Int32) ap ln (own_cnt ln) fl h60 n0 Z62 hfn) hZ (hw _ (List.mem_of_getElem? (i := 14) rfl)) (hw _ (List.mem_of_getElem? (i := 8) rfl)) (by decide) (by decide)) (g := (mkF m 126 #[.val (.int x0), .val (.int s0), .val (.int a2), .val (.int f0), .val (.int ln), .val (.int ap), .val (.int fl), .val (.ref b1), .val (.int (own_pl 4 ap ap.toNatClampNeg ln [(.int (nar .byte fl)), (.int (nar .byte fl)), (.int (nar .byte fl)), (.int (nar .byte fl)), (.int (nar .byte fl)), (.int (nar .byte fl)), (.int (nar .byte fl)), (.int (nar .byte fl)), (.int (nar .byte fl))]).1), .val (.int (own_cnt ln))] [(.int fl), (.int (own_cnt ln)), (.int ln), (.int ap), (.int (0 : Int32)), (.int (own_ex (0 : Int32) ap ln (own_cnt ln) fl))])) rfl (by rw [hml]; rfl) (argsL := [(.int (0 : Int32)), (.int ap), (.int ln), (.int (own_cnt ln)), (.int fl)]) (rest := [(.int (own_ex (0 : Int32) ap ln (own_cnt ln) fl))]) (lenOf pd_exp rfl) rfl (by show 2 * 0 + _ ≤ _; exact Nat.le_of_eq rfl) (hb hby at_126) (fun _ _ => ⟨rfl, heq65, (by decide : 1 + 0 ≤ _), (by decide : 9 + 0 ≤ _)⟩)
  dsimp only [Pt.U, Pt.locs, Pt.cells, Pt.slots] at X73 l73 y73 z73 st73 hQ73
  subst l73 y73 z73
  obtain ⟨rfl, Nq73, heq73⟩ := hQ73
  have N73 := Fr.app N65 Nq73
  have pre74 : ∀ t, Steps p.tables e below (T73.setTop (mkF m 129 #[.val (.int x0), .val (.int s0), .val (.int a2), .val (.int f0), .val (.int ln), .val (.int ap), .val (.int fl), .val (.ref b1), .val (.int (own_pl 4 ap ap.toNatClampNeg ln [(.int (nar .byte fl)), (.int (nar .byte fl)), (.int (nar .byte fl)), (.int (nar .byte fl)), (.int (nar .byte fl)), (.int (nar .byte fl)), (.int (nar .byte fl)), (.int (nar .byte fl)), (.int (nar .byte fl))]).1), .val (.int (own_cnt ln))] [(.int (own_ex (0 : Int32) ap ln (own_cnt ln) fl)), (.int (own_ex (0 : Int32) ap ln (own_cnt ln) fl))])) t → Steps p.tables e below (s₁.setTop (entryFrame m #[(.int x0), (.int s0), (.int a2), (.int f0)] maxLocals)) t := fun t k => pre71 t (st73 t k)
  have pre75 : ∀ t, Steps p.tables e below (T73.setTop (mkF m 135 #[.val (.int x0), .val (.int s0), .val (.int a2), .val (.int f0), .val (.int ln), .val (.int ap), .val (.int fl), .val (.ref b1), .val (.int (own_pl 4 ap ap.toNatClampNeg ln [(.int (nar .byte fl)), (.int (nar .byte fl)), (.int (nar .byte fl)), (.int (nar .byte fl)), (.int (nar .byte fl)), (.int (nar .byte fl)), (.int (nar .byte fl)), (.int (nar .byte fl)), (.int (nar .byte fl))]).1), .val (.int (own_cnt ln))] [(.int (1 : Int32)), (.ref b1)])) t → Steps p.tables e below (s₁.setTop (entryFrame m #[(.int x0), (.int s0), (.int a2), (.int f0)] maxLocals)) t := by
    intro t k
    refine pre74 t ?_
    refine XS.icmpNo X73.here hx rfl (hb hby at_129) rfl (XT.ii_ne_f rfl) ?_
    show Steps p.tables e below (T73.setTop (mkF m 132 #[.val (.int x0), .val (.int s0), .val (.int a2), .val (.int f0), .val (.int ln), .val (.int ap), .val (.int fl), .val (.ref b1), .val (.int (own_pl 4 ap ap.toNatClampNeg ln [(.int (nar .byte fl)), (.int (nar .byte fl)), (.int (nar .byte fl)), (.int (nar .byte fl)), (.int (nar .byte fl)), (.int (nar .byte fl)), (.int (nar .byte fl)), (.int (nar .byte fl)), (.int (nar .byte fl))]).1), .val (.int (own_cnt ln))] [])) _
    refine XS.aload X73.here hx rfl (hb hby at_132) rfl rfl ?_
    show Steps p.tables e below (T73.setTop (mkF m 134 #[.val (.int x0), .val (.int s0), .val (.int a2), .val (.int f0), .val (.int ln), .val (.int ap), .val (.int fl), .val (.ref b1), .val (.int (own_pl 4 ap ap.toNatClampNeg ln [(.int (nar .byte fl)), (.int (nar .byte fl)), (.int (nar .byte fl)), (.int (nar .byte fl)), (.int (nar .byte fl)), (.int (nar .byte fl)), (.int (nar .byte fl)), (.int (nar .byte fl)), (.int (nar .byte fl))]).1), .val (.int (own_cnt ln))] [(.ref b1)])) _
    refine XS.iconst X73.here hx rfl (hb hby at_134) ?_
    show Steps p.tables e below (T73.setTop (mkF m 135 #[.val (.int x0), .val (.int s0), .val (.int a2), .val (.int f0), .val (.int ln), .val (.int ap), .val (.int fl), .val (.ref b1), .val (.int (own_pl 4 ap ap.toNatClampNeg ln [(.int (nar .byte fl)), (.int (nar .byte fl)), (.int (nar .byte fl)), (.int (nar .byte fl)), (.int (nar .byte fl)), (.int (nar .byte fl)), (.int (nar .byte fl)), (.int (nar .byte fl)), (.int (nar .byte fl))]).1), .val (.int (own_cnt ln))] [(.int (1 : Int32)), (.ref b1)])) _
    exact k
  obtain ⟨cc76, Ar76, q1_76, Sz76, q3_76, Hs76, G76⟩ := id Va60
  have hin76 : ¬ ((1 : Int32) < 0 ∨ cc76.slots.size ≤ ((1 : Int32) : Int32).toNatClampNeg) := inb_of Sz76 ⟨(by decide), (by decide)⟩
  have hat76 : cc76.slots[((1 : Int32) : Int32).toNatClampNeg]? = some (.int (own_ex (1 : Int32) ap ln (own_cnt ln) fl)) := Hs76.at hin76 hz.2.2.1
  have pre79 : ∀ t, Steps p.tables e below (T73.setTop (mkF m 145 #[.val (.int x0), .val (.int s0), .val (.int a2), .val (.int f0), .val (.int ln), .val (.int ap), .val (.int fl), .val (.ref b1), .val (.int (own_pl 4 ap ap.toNatClampNeg ln [(.int (nar .byte fl)), (.int (nar .byte fl)), (.int (nar .byte fl)), (.int (nar .byte fl)), (.int (nar .byte fl)), (.int (nar .byte fl)), (.int (nar .byte fl)), (.int (nar .byte fl)), (.int (nar .byte fl))]).1), .val (.int (own_cnt ln))] [(.int fl), (.int (own_cnt ln)), (.int ln), (.int ap), (.int (1 : Int32)), (.int (own_ex (1 : Int32) ap ln (own_cnt ln) fl))])) t → Steps p.tables e below (s₁.setTop (entryFrame m #[(.int x0), (.int s0), (.int a2), (.int f0)] maxLocals)) t := by
    intro t k
    refine pre75 t ?_
    refine X73.baloadBytes hx (j := (1 : Int32)) (v := (.int (own_ex (1 : Int32) ap ln (own_cnt ln) fl))) (by rw [heq73]; exact Ar76.1) (State.isArrayOf_alike hZ.alike Ar76.2.1) Ar76.2.2 hin76 hat76 (g := (mkF m 135 #[.val (.int x0), .val (.int s0), .val (.int a2), .val (.int f0), .val (.int ln), .val (.int ap), .val (.int fl), .val (.ref b1), .val (.int (own_pl 4 ap ap.toNatClampNeg ln [(.int (nar .byte fl)), (.int (nar .byte fl)), (.int (nar .byte fl)), (.int (nar .byte fl)), (.int (nar .byte fl)), (.int (nar .byte fl)), (.int (nar .byte fl)), (.int (nar .byte fl)), (.int (nar .byte fl))]).1), .val (.int (own_cnt ln))] [(.int (1 : Int32)), (.ref b1)])) rfl rfl (hb hby at_135) _ ?_
    show Steps p.tables e below (T73.setTop (mkF m 136 #[.val (.int x0), .val (.int s0), .val (.int a2), .val (.int f0), .val (.int ln), .val (.int ap), .val (.int fl), .val (.ref b1), .val (.int (own_pl 4 ap ap.toNatClampNeg ln [(.int (nar .byte fl)), (.int (nar .byte fl)), (.int (nar .byte fl)), (.int (nar .byte fl)), (.int (nar .byte fl)), (.int (nar .byte fl)), (.int (nar .byte fl)), (.int (nar .byte fl)), (.int (nar .byte fl))]).1), .val (.int (own_cnt ln))] [(.int (own_ex (1 : Int32) ap ln (own_cnt ln) fl))])) _
    refine XS.iconst X73.here hx rfl (hb hby at_136) ?_
    show Steps p.tables e below (T73.setTop (mkF m 137 #[.val (.int x0), .val (.int s0), .val (.int a2), .val (.int f0), .val (.int ln), .val (.int ap), .val (.int fl), .val (.ref b1), .val (.int (own_pl 4 ap ap.toNatClampNeg ln [(.int (nar .byte fl)), (.int (nar .byte fl)), (.int (nar .byte fl)), (.int (nar .byte fl)), (.int (nar .byte fl)), (.int (nar .byte fl)), (.int (nar .byte fl)), (.int (nar .byte fl)), (.int (nar .byte fl))]).1), .val (.int (own_cnt ln))] [(.int (1 : Int32)), (.int (own_ex (1 : Int32) ap ln (own_cnt ln) fl))])) _
    refine XS.iload X73.here hx rfl (hb hby at_137) rfl ?_
    show Steps p.tables e below (T73.setTop (mkF m 139 #[.val (.int x0), .val (.int s0), .val (.int a2), .val (.int f0), .val (.int ln), .val (.int ap), .val (.int fl), .val (.ref b1), .val (.int (own_pl 4 ap ap.toNatClampNeg ln [(.int (nar .byte fl)), (.int (nar .byte fl)), (.int (nar .byte fl)), (.int (nar .byte fl)), (.int (nar .byte fl)), (.int (nar .byte fl)), (.int (nar .byte fl)), (.int (nar .byte fl)), (.int (nar .byte fl))]).1), .val (.int (own_cnt ln))] [(.int ap), (.int (1 : Int32)), (.int (own_ex (1 : Int32) ap ln (own_cnt ln) fl))])) _
    refine XS.iload X73.here hx rfl (hb hby at_139) rfl ?_
    show Steps p.tables e below (T73.setTop (mkF m 141 #[.val (.int x0), .val (.int s0), .val (.int a2), .val (.int f0), .val (.int ln), .val (.int ap), .val (.int fl), .val (.ref b1), .val (.int (own_pl 4 ap ap.toNatClampNeg ln [(.int (nar .byte fl)), (.int (nar .byte fl)), (.int (nar .byte fl)), (.int (nar .byte fl)), (.int (nar .byte fl)), (.int (nar .byte fl)), (.int (nar .byte fl)), (.int (nar .byte fl)), (.int (nar .byte fl))]).1), .val (.int (own_cnt ln))] [(.int ln), (.int ap), (.int (1 : Int32)), (.int (own_ex (1 : Int32) ap ln (own_cnt ln) fl))])) _
    refine XS.iload X73.here hx rfl (hb hby at_141) rfl ?_
    show Steps p.tables e below (T73.setTop (mkF m 143 #[.val (.int x0), .val (.int s0), .val (.int a2), .val (.int f0), .val (.int ln), .val (.int ap), .val (.int fl), .val (.ref b1), .val (.int (own_pl 4 ap ap.toNatClampNeg ln [(.int (nar .byte fl)), (.int (nar .byte fl)), (.int (nar .byte fl)), (.int (nar .byte fl)), (.int (nar .byte fl)), (.int (nar .byte fl)), (.int (nar .byte fl)), (.int (nar .byte fl)), (.int (nar .byte fl))]).1), .val (.int (own_cnt ln))] [(.int (own_cnt ln)), (.int ln), (.int ap), (.int (1 : Int32)), (.int (own_ex (1 : Int32) ap ln (own_cnt ln) fl))])) _
    refine XS.iload X73.here hx rfl (hb hby at_143) rfl ?_
    show Steps p.tables e below (T73.setTop (mkF m 145 #[.val (.int x0), .val (.int s0), .val (.int a2), .val (.int f0), .val (.int ln), .val (.int ap), .val (.int fl), .val (.ref b1), .val (.int (own_pl 4 ap ap.toNatClampNeg ln [(.int (nar .byte fl)), (.int (nar .byte fl)), (.int (nar .byte fl)), (.int (nar .byte fl)), (.int (nar .byte fl)), (.int (nar .byte fl)), (.int (nar .byte fl)), (.int (nar .byte fl)), (.int (nar .byte fl))]).1), .val (.int (own_cnt ln))] [(.int fl), (.int (own_cnt ln)), (.int ln), (.int ap), (.int (1 : Int32)), (.int (own_ex (1 : Int32) ap ln (own_cnt ln) fl))])) _
    exact k
  obtain ⟨_, _, ⟨T81, L81, k81, n81⟩, -, X81, ⟨Lc81, hQ81, l81, y81, z81⟩, st81⟩ := Jvm.LawKit.callS X73 hx (y := (⟨"com/example/sluice/sluice/state/SnapshotOutputPutLengthPinLaw", "expected", "(IIIIB)B"⟩ : MethodName)) hown (mvT hZ (hw _ (List.mem_of_getElem? (i := 12) rfl))) (mvT hZ (hw _ (List.mem_of_getElem? (i := 13) rfl))) (mvT hZ (hw _ (List.mem_of_getElem? (i := 8) rfl))) (mvT hZ (hw _ (List.mem_of_getElem? (i := 14) rfl))) (by decide) (backOf (W := 1) (rm3 l Z a0 hw [] (1 : Int32) ap ln (own_cnt ln) fl h60 n0 Z62 hfn) hZ (hw _ (List.mem_of_getElem? (i := 14) rfl)) (hw _ (List.mem_of_getElem? (i := 8) rfl)) (by decide) (by decide)) (g := (mkF m 145 #[.val (.int x0), .val (.int s0), .val (.int a2), .val (.int f0), .val (.int ln), .val (.int ap), .val (.int fl), .val (.ref b1), .val (.int (own_pl 4 ap ap.toNatClampNeg ln [(.int (nar .byte fl)), (.int (nar .byte fl)), (.int (nar .byte fl)), (.int (nar .byte fl)), (.int (nar .byte fl)), (.int (nar .byte fl)), (.int (nar .byte fl)), (.int (nar .byte fl)), (.int (nar .byte fl))]).1), .val (.int (own_cnt ln))] [(.int fl), (.int (own_cnt ln)), (.int ln), (.int ap), (.int (1 : Int32)), (.int (own_ex (1 : Int32) ap ln (own_cnt ln) fl))])) rfl (by rw [hml]; rfl) (argsL := [(.int (1 : Int32)), (.int ap), (.int ln), (.int (own_cnt ln)), (.int fl)]) (rest := [(.int (own_ex (1 : Int32) ap ln (own_cnt ln) fl))]) (lenOf pd_exp rfl) rfl (by show 2 * 0 + _ ≤ _; exact Nat.le_of_eq rfl) (hb hby at_145) (fun _ _ => ⟨rfl, heq73, (by decide : 1 + 0 ≤ _), (by decide : 9 + 0 ≤ _)⟩)
  dsimp only [Pt.U, Pt.locs, Pt.cells, Pt.slots] at X81 l81 y81 z81 st81 hQ81
  subst l81 y81 z81
  obtain ⟨rfl, Nq81, heq81⟩ := hQ81
  have N81 := Fr.app N73 Nq81
  have pre82 : ∀ t, Steps p.tables e below (T81.setTop (mkF m 148 #[.val (.int x0), .val (.int s0), .val (.int a2), .val (.int f0), .val (.int ln), .val (.int ap), .val (.int fl), .val (.ref b1), .val (.int (own_pl 4 ap ap.toNatClampNeg ln [(.int (nar .byte fl)), (.int (nar .byte fl)), (.int (nar .byte fl)), (.int (nar .byte fl)), (.int (nar .byte fl)), (.int (nar .byte fl)), (.int (nar .byte fl)), (.int (nar .byte fl)), (.int (nar .byte fl))]).1), .val (.int (own_cnt ln))] [(.int (own_ex (1 : Int32) ap ln (own_cnt ln) fl)), (.int (own_ex (1 : Int32) ap ln (own_cnt ln) fl))])) t → Steps p.tables e below (s₁.setTop (entryFrame m #[(.int x0), (.int s0), (.int a2), (.int f0)] maxLocals)) t := fun t k => pre79 t (st81 t k)
  have pre83 : ∀ t, Steps p.tables e below (T81.setTop (mkF m 154 #[.val (.int x0), .val (.int s0), .val (.int a2), .val (.int f0), .val (.int ln), .val (.int ap), .val (.int fl), .val (.ref b1), .val (.int (own_pl 4 ap ap.toNatClampNeg ln [(.int (nar .byte fl)), (.int (nar .byte fl)), (.int (nar .byte fl)), (.int (nar .byte fl)), (.int (nar .byte fl)), (.int (nar .byte fl)), (.int (nar .byte fl)), (.int (nar .byte fl)), (.int (nar .byte fl))]).1), .val (.int (own_cnt ln))] [(.int (2 : Int32)), (.ref b1)])) t → Steps p.tables e below (s₁.setTop (entryFrame m #[(.int x0), (.int s0), (.int a2), (.int f0)] maxLocals)) t := by
    intro t k
    refine pre82 t ?_
    refine XS.icmpNo X81.here hx rfl (hb hby at_148) rfl (XT.ii_ne_f rfl) ?_
    show Steps p.tables e below (T81.setTop (mkF m 151 #[.val (.int x0), .val (.int s0), .val (.int a2), .val (.int f0), .val (.int ln), .val (.int ap), .val (.int fl), .val (.ref b1), .val (.int (own_pl 4 ap ap.toNatClampNeg ln [(.int (nar .byte fl)), (.int (nar .byte fl)), (.int (nar .byte fl)), (.int (nar .byte fl)), (.int (nar .byte fl)), (.int (nar .byte fl)), (.int (nar .byte fl)), (.int (nar .byte fl)), (.int (nar .byte fl))]).1), .val (.int (own_cnt ln))] [])) _
    refine XS.aload X81.here hx rfl (hb hby at_151) rfl rfl ?_
    show Steps p.tables e below (T81.setTop (mkF m 153 #[.val (.int x0), .val (.int s0), .val (.int a2), .val (.int f0), .val (.int ln), .val (.int ap), .val (.int fl), .val (.ref b1), .val (.int (own_pl 4 ap ap.toNatClampNeg ln [(.int (nar .byte fl)), (.int (nar .byte fl)), (.int (nar .byte fl)), (.int (nar .byte fl)), (.int (nar .byte fl)), (.int (nar .byte fl)), (.int (nar .byte fl)), (.int (nar .byte fl)), (.int (nar .byte fl))]).1), .val (.int (own_cnt ln))] [(.ref b1)])) _
    refine XS.iconst X81.here hx rfl (hb hby at_153) ?_
    show Steps p.tables e below (T81.setTop (mkF m 154 #[.val (.int x0), .val (.int s0), .val (.int a2), .val (.int f0), .val (.int ln), .val (.int ap), .val (.int fl), .val (.ref b1), .val (.int (own_pl 4 ap ap.toNatClampNeg ln [(.int (nar .byte fl)), (.int (nar .byte fl)), (.int (nar .byte fl)), (.int (nar .byte fl)), (.int (nar .byte fl)), (.int (nar .byte fl)), (.int (nar .byte fl)), (.int (nar .byte fl)), (.int (nar .byte fl))]).1), .val (.int (own_cnt ln))] [(.int (2 : Int32)), (.ref b1)])) _
    exact k
  obtain ⟨cc84, Ar84, q1_84, Sz84, q3_84, Hs84, G84⟩ := id Va60
  have hin84 : ¬ ((2 : Int32) < 0 ∨ cc84.slots.size ≤ ((2 : Int32) : Int32).toNatClampNeg) := inb_of Sz84 ⟨(by decide), (by decide)⟩
  have hat84 : cc84.slots[((2 : Int32) : Int32).toNatClampNeg]? = some (.int (own_ex (2 : Int32) ap ln (own_cnt ln) fl)) := Hs84.at hin84 hz.2.2.2.1
  have pre87 : ∀ t, Steps p.tables e below (T81.setTop (mkF m 164 #[.val (.int x0), .val (.int s0), .val (.int a2), .val (.int f0), .val (.int ln), .val (.int ap), .val (.int fl), .val (.ref b1), .val (.int (own_pl 4 ap ap.toNatClampNeg ln [(.int (nar .byte fl)), (.int (nar .byte fl)), (.int (nar .byte fl)), (.int (nar .byte fl)), (.int (nar .byte fl)), (.int (nar .byte fl)), (.int (nar .byte fl)), (.int (nar .byte fl)), (.int (nar .byte fl))]).1), .val (.int (own_cnt ln))] [(.int fl), (.int (own_cnt ln)), (.int ln), (.int ap), (.int (2 : Int32)), (.int (own_ex (2 : Int32) ap ln (own_cnt ln) fl))])) t → Steps p.tables e below (s₁.setTop (entryFrame m #[(.int x0), (.int s0), (.int a2), (.int f0)] maxLocals)) t := by
    intro t k
    refine pre83 t ?_
    refine X81.baloadBytes hx (j := (2 : Int32)) (v := (.int (own_ex (2 : Int32) ap ln (own_cnt ln) fl))) (by rw [heq81]; exact Ar84.1) (State.isArrayOf_alike hZ.alike Ar84.2.1) Ar84.2.2 hin84 hat84 (g := (mkF m 154 #[.val (.int x0), .val (.int s0), .val (.int a2), .val (.int f0), .val (.int ln), .val (.int ap), .val (.int fl), .val (.ref b1), .val (.int (own_pl 4 ap ap.toNatClampNeg ln [(.int (nar .byte fl)), (.int (nar .byte fl)), (.int (nar .byte fl)), (.int (nar .byte fl)), (.int (nar .byte fl)), (.int (nar .byte fl)), (.int (nar .byte fl)), (.int (nar .byte fl)), (.int (nar .byte fl))]).1), .val (.int (own_cnt ln))] [(.int (2 : Int32)), (.ref b1)])) rfl rfl (hb hby at_154) _ ?_
    show Steps p.tables e below (T81.setTop (mkF m 155 #[.val (.int x0), .val (.int s0), .val (.int a2), .val (.int f0), .val (.int ln), .val (.int ap), .val (.int fl), .val (.ref b1), .val (.int (own_pl 4 ap ap.toNatClampNeg ln [(.int (nar .byte fl)), (.int (nar .byte fl)), (.int (nar .byte fl)), (.int (nar .byte fl)), (.int (nar .byte fl)), (.int (nar .byte fl)), (.int (nar .byte fl)), (.int (nar .byte fl)), (.int (nar .byte fl))]).1), .val (.int (own_cnt ln))] [(.int (own_ex (2 : Int32) ap ln (own_cnt ln) fl))])) _
    refine XS.iconst X81.here hx rfl (hb hby at_155) ?_
    show Steps p.tables e below (T81.setTop (mkF m 156 #[.val (.int x0), .val (.int s0), .val (.int a2), .val (.int f0), .val (.int ln), .val (.int ap), .val (.int fl), .val (.ref b1), .val (.int (own_pl 4 ap ap.toNatClampNeg ln [(.int (nar .byte fl)), (.int (nar .byte fl)), (.int (nar .byte fl)), (.int (nar .byte fl)), (.int (nar .byte fl)), (.int (nar .byte fl)), (.int (nar .byte fl)), (.int (nar .byte fl)), (.int (nar .byte fl))]).1), .val (.int (own_cnt ln))] [(.int (2 : Int32)), (.int (own_ex (2 : Int32) ap ln (own_cnt ln) fl))])) _
    refine XS.iload X81.here hx rfl (hb hby at_156) rfl ?_
    show Steps p.tables e below (T81.setTop (mkF m 158 #[.val (.int x0), .val (.int s0), .val (.int a2), .val (.int f0), .val (.int ln), .val (.int ap), .val (.int fl), .val (.ref b1), .val (.int (own_pl 4 ap ap.toNatClampNeg ln [(.int (nar .byte fl)), (.int (nar .byte fl)), (.int (nar .byte fl)), (.int (nar .byte fl)), (.int (nar .byte fl)), (.int (nar .byte fl)), (.int (nar .byte fl)), (.int (nar .byte fl)), (.int (nar .byte fl))]).1), .val (.int (own_cnt ln))] [(.int ap), (.int (2 : Int32)), (.int (own_ex (2 : Int32) ap ln (own_cnt ln) fl))])) _
    refine XS.iload X81.here hx rfl (hb hby at_158) rfl ?_
    show Steps p.tables e below (T81.setTop (mkF m 160 #[.val (.int x0), .val (.int s0), .val (.int a2), .val (.int f0), .val (.int ln), .val (.int ap), .val (.int fl), .val (.ref b1), .val (.int (own_pl 4 ap ap.toNatClampNeg ln [(.int (nar .byte fl)), (.int (nar .byte fl)), (.int (nar .byte fl)), (.int (nar .byte fl)), (.int (nar .byte fl)), (.int (nar .byte fl)), (.int (nar .byte fl)), (.int (nar .byte fl)), (.int (nar .byte fl))]).1), .val (.int (own_cnt ln))] [(.int ln), (.int ap), (.int (2 : Int32)), (.int (own_ex (2 : Int32) ap ln (own_cnt ln) fl))])) _
    refine XS.iload X81.here hx rfl (hb hby at_160) rfl ?_
    show Steps p.tables e below (T81.setTop (mkF m 162 #[.val (.int x0), .val (.int s0), .val (.int a2), .val (.int f0), .val (.int ln), .val (.int ap), .val (.int fl), .val (.ref b1), .val (.int (own_pl 4 ap ap.toNatClampNeg ln [(.int (nar .byte fl)), (.int (nar .byte fl)), (.int (nar .byte fl)), (.int (nar .byte fl)), (.int (nar .byte fl)), (.int (nar .byte fl)), (.int (nar .byte fl)), (.int (nar .byte fl)), (.int (nar .byte fl))]).1), .val (.int (own_cnt ln))] [(.int (own_cnt ln)), (.int ln), (.int ap), (.int (2 : Int32)), (.int (own_ex (2 : Int32) ap ln (own_cnt ln) fl))])) _
    refine XS.iload X81.here hx rfl (hb hby at_162) rfl ?_
    show Steps p.tables e below (T81.setTop (mkF m 164 #[.val (.int x0), .val (.int s0), .val (.int a2), .val (.int f0), .val (.int ln), .val (.int ap), .val (.int fl), .val (.ref b1), .val (.int (own_pl 4 ap ap.toNatClampNeg ln [(.int (nar .byte fl)), (.int (nar .byte fl)), (.int (nar .byte fl)), (.int (nar .byte fl)), (.int (nar .byte fl)), (.int (nar .byte fl)), (.int (nar .byte fl)), (.int (nar .byte fl)), (.int (nar .byte fl))]).1), .val (.int (own_cnt ln))] [(.int fl), (.int (own_cnt ln)), (.int ln), (.int ap), (.int (2 : Int32)), (.int (own_ex (2 : Int32) ap ln (own_cnt ln) fl))])) _
    exact k
  obtain ⟨_, _, ⟨T89, L89, k89, n89⟩, -, X89, ⟨Lc89, hQ89, l89, y89, z89⟩, st89⟩ := Jvm.LawKit.callS X81 hx (y := (⟨"com/example/sluice/sluice/state/SnapshotOutputPutLengthPinLaw", "expected", "(IIIIB)B"⟩ : MethodName)) hown (mvT hZ (hw _ (List.mem_of_getElem? (i := 12) rfl))) (mvT hZ (hw _ (List.mem_of_getElem? (i := 13) rfl))) (mvT hZ (hw _ (List.mem_of_getElem? (i := 8) rfl))) (mvT hZ (hw _ (List.mem_of_getElem? (i := 14) rfl))) (by decide) (backOf (W := 1) (rm3 l Z a0 hw [] (2 : Int32) ap ln (own_cnt ln) fl h60 n0 Z62 hfn) hZ (hw _ (List.mem_of_getElem? (i := 14) rfl)) (hw _ (List.mem_of_getElem? (i := 8) rfl)) (by decide) (by decide)) (g := (mkF m 164 #[.val (.int x0), .val (.int s0), .val (.int a2), .val (.int f0), .val (.int ln), .val (.int ap), .val (.int fl), .val (.ref b1), .val (.int (own_pl 4 ap ap.toNatClampNeg ln [(.int (nar .byte fl)), (.int (nar .byte fl)), (.int (nar .byte fl)), (.int (nar .byte fl)), (.int (nar .byte fl)), (.int (nar .byte fl)), (.int (nar .byte fl)), (.int (nar .byte fl)), (.int (nar .byte fl))]).1), .val (.int (own_cnt ln))] [(.int fl), (.int (own_cnt ln)), (.int ln), (.int ap), (.int (2 : Int32)), (.int (own_ex (2 : Int32) ap ln (own_cnt ln) fl))])) rfl (by rw [hml]; rfl) (argsL := [(.int (2 : Int32)), (.int ap), (.int ln), (.int (own_cnt ln)), (.int fl)]) (rest := [(.int (own_ex (2 : Int32) ap ln (own_cnt ln) fl))]) (lenOf pd_exp rfl) rfl (by show 2 * 0 + _ ≤ _; exact Nat.le_of_eq rfl) (hb hby at_164) (fun _ _ => ⟨rfl, heq81, (by decide : 1 + 0 ≤ _), (by decide : 9 + 0 ≤ _)⟩)
  dsimp only [Pt.U, Pt.locs, Pt.cells, Pt.slots] at X89 l89 y89 z89 st89 hQ89
  subst l89 y89 z89
  obtain ⟨rfl, Nq89, heq89⟩ := hQ89
  have N89 := Fr.app N81 Nq89
  have pre90 : ∀ t, Steps p.tables e below (T89.setTop (mkF m 167 #[.val (.int x0), .val (.int s0), .val (.int a2), .val (.int f0), .val (.int ln), .val (.int ap), .val (.int fl), .val (.ref b1), .val (.int (own_pl 4 ap ap.toNatClampNeg ln [(.int (nar .byte fl)), (.int (nar .byte fl)), (.int (nar .byte fl)), (.int (nar .byte fl)), (.int (nar .byte fl)), (.int (nar .byte fl)), (.int (nar .byte fl)), (.int (nar .byte fl)), (.int (nar .byte fl))]).1), .val (.int (own_cnt ln))] [(.int (own_ex (2 : Int32) ap ln (own_cnt ln) fl)), (.int (own_ex (2 : Int32) ap ln (own_cnt ln) fl))])) t → Steps p.tables e below (s₁.setTop (entryFrame m #[(.int x0), (.int s0), (.int a2), (.int f0)] maxLocals)) t := fun t k => pre87 t (st89 t k)
  have pre91 : ∀ t, Steps p.tables e below (T89.setTop (mkF m 173 #[.val (.int x0), .val (.int s0), .val (.int a2), .val (.int f0), .val (.int ln), .val (.int ap), .val (.int fl), .val (.ref b1), .val (.int (own_pl 4 ap ap.toNatClampNeg ln [(.int (nar .byte fl)), (.int (nar .byte fl)), (.int (nar .byte fl)), (.int (nar .byte fl)), (.int (nar .byte fl)), (.int (nar .byte fl)), (.int (nar .byte fl)), (.int (nar .byte fl)), (.int (nar .byte fl))]).1), .val (.int (own_cnt ln))] [(.int (3 : Int32)), (.ref b1)])) t → Steps p.tables e below (s₁.setTop (entryFrame m #[(.int x0), (.int s0), (.int a2), (.int f0)] maxLocals)) t := by
    intro t k
    refine pre90 t ?_
    refine XS.icmpNo X89.here hx rfl (hb hby at_167) rfl (XT.ii_ne_f rfl) ?_
    show Steps p.tables e below (T89.setTop (mkF m 170 #[.val (.int x0), .val (.int s0), .val (.int a2), .val (.int f0), .val (.int ln), .val (.int ap), .val (.int fl), .val (.ref b1), .val (.int (own_pl 4 ap ap.toNatClampNeg ln [(.int (nar .byte fl)), (.int (nar .byte fl)), (.int (nar .byte fl)), (.int (nar .byte fl)), (.int (nar .byte fl)), (.int (nar .byte fl)), (.int (nar .byte fl)), (.int (nar .byte fl)), (.int (nar .byte fl))]).1), .val (.int (own_cnt ln))] [])) _
    refine XS.aload X89.here hx rfl (hb hby at_170) rfl rfl ?_
    show Steps p.tables e below (T89.setTop (mkF m 172 #[.val (.int x0), .val (.int s0), .val (.int a2), .val (.int f0), .val (.int ln), .val (.int ap), .val (.int fl), .val (.ref b1), .val (.int (own_pl 4 ap ap.toNatClampNeg ln [(.int (nar .byte fl)), (.int (nar .byte fl)), (.int (nar .byte fl)), (.int (nar .byte fl)), (.int (nar .byte fl)), (.int (nar .byte fl)), (.int (nar .byte fl)), (.int (nar .byte fl)), (.int (nar .byte fl))]).1), .val (.int (own_cnt ln))] [(.ref b1)])) _
    refine XS.iconst X89.here hx rfl (hb hby at_172) ?_
    show Steps p.tables e below (T89.setTop (mkF m 173 #[.val (.int x0), .val (.int s0), .val (.int a2), .val (.int f0), .val (.int ln), .val (.int ap), .val (.int fl), .val (.ref b1), .val (.int (own_pl 4 ap ap.toNatClampNeg ln [(.int (nar .byte fl)), (.int (nar .byte fl)), (.int (nar .byte fl)), (.int (nar .byte fl)), (.int (nar .byte fl)), (.int (nar .byte fl)), (.int (nar .byte fl)), (.int (nar .byte fl)), (.int (nar .byte fl))]).1), .val (.int (own_cnt ln))] [(.int (3 : Int32)), (.ref b1)])) _
    exact k
  obtain ⟨cc92, Ar92, q1_92, Sz92, q3_92, Hs92, G92⟩ := id Va60
  have hin92 : ¬ ((3 : Int32) < 0 ∨ cc92.slots.size ≤ ((3 : Int32) : Int32).toNatClampNeg) := inb_of Sz92 ⟨(by decide), (by decide)⟩
  have hat92 : cc92.slots[((3 : Int32) : Int32).toNatClampNeg]? = some (.int (own_ex (3 : Int32) ap ln (own_cnt ln) fl)) := Hs92.at hin92 hz.2.2.2.2.1
  have pre95 : ∀ t, Steps p.tables e below (T89.setTop (mkF m 183 #[.val (.int x0), .val (.int s0), .val (.int a2), .val (.int f0), .val (.int ln), .val (.int ap), .val (.int fl), .val (.ref b1), .val (.int (own_pl 4 ap ap.toNatClampNeg ln [(.int (nar .byte fl)), (.int (nar .byte fl)), (.int (nar .byte fl)), (.int (nar .byte fl)), (.int (nar .byte fl)), (.int (nar .byte fl)), (.int (nar .byte fl)), (.int (nar .byte fl)), (.int (nar .byte fl))]).1), .val (.int (own_cnt ln))] [(.int fl), (.int (own_cnt ln)), (.int ln), (.int ap), (.int (3 : Int32)), (.int (own_ex (3 : Int32) ap ln (own_cnt ln) fl))])) t → Steps p.tables e below (s₁.setTop (entryFrame m #[(.int x0), (.int s0), (.int a2), (.int f0)] maxLocals)) t := by
    intro t k
    refine pre91 t ?_
    refine X89.baloadBytes hx (j := (3 : Int32)) (v := (.int (own_ex (3 : Int32) ap ln (own_cnt ln) fl))) (by rw [heq89]; exact Ar92.1) (State.isArrayOf_alike hZ.alike Ar92.2.1) Ar92.2.2 hin92 hat92 (g := (mkF m 173 #[.val (.int x0), .val (.int s0), .val (.int a2), .val (.int f0), .val (.int ln), .val (.int ap), .val (.int fl), .val (.ref b1), .val (.int (own_pl 4 ap ap.toNatClampNeg ln [(.int (nar .byte fl)), (.int (nar .byte fl)), (.int (nar .byte fl)), (.int (nar .byte fl)), (.int (nar .byte fl)), (.int (nar .byte fl)), (.int (nar .byte fl)), (.int (nar .byte fl)), (.int (nar .byte fl))]).1), .val (.int (own_cnt ln))] [(.int (3 : Int32)), (.ref b1)])) rfl rfl (hb hby at_173) _ ?_
    show Steps p.tables e below (T89.setTop (mkF m 174 #[.val (.int x0), .val (.int s0), .val (.int a2), .val (.int f0), .val (.int ln), .val (.int ap), .val (.int fl), .val (.ref b1), .val (.int (own_pl 4 ap ap.toNatClampNeg ln [(.int (nar .byte fl)), (.int (nar .byte fl)), (.int (nar .byte fl)), (.int (nar .byte fl)), (.int (nar .byte fl)), (.int (nar .byte fl)), (.int (nar .byte fl)), (.int (nar .byte fl)), (.int (nar .byte fl))]).1), .val (.int (own_cnt ln))] [(.int (own_ex (3 : Int32) ap ln (own_cnt ln) fl))])) _
    refine XS.iconst X89.here hx rfl (hb hby at_174) ?_
    show Steps p.tables e below (T89.setTop (mkF m 175 #[.val (.int x0), .val (.int s0), .val (.int a2), .val (.int f0), .val (.int ln), .val (.int ap), .val (.int fl), .val (.ref b1), .val (.int (own_pl 4 ap ap.toNatClampNeg ln [(.int (nar .byte fl)), (.int (nar .byte fl)), (.int (nar .byte fl)), (.int (nar .byte fl)), (.int (nar .byte fl)), (.int (nar .byte fl)), (.int (nar .byte fl)), (.int (nar .byte fl)), (.int (nar .byte fl))]).1), .val (.int (own_cnt ln))] [(.int (3 : Int32)), (.int (own_ex (3 : Int32) ap ln (own_cnt ln) fl))])) _
    refine XS.iload X89.here hx rfl (hb hby at_175) rfl ?_
    show Steps p.tables e below (T89.setTop (mkF m 177 #[.val (.int x0), .val (.int s0), .val (.int a2), .val (.int f0), .val (.int ln), .val (.int ap), .val (.int fl), .val (.ref b1), .val (.int (own_pl 4 ap ap.toNatClampNeg ln [(.int (nar .byte fl)), (.int (nar .byte fl)), (.int (nar .byte fl)), (.int (nar .byte fl)), (.int (nar .byte fl)), (.int (nar .byte fl)), (.int (nar .byte fl)), (.int (nar .byte fl)), (.int (nar .byte fl))]).1), .val (.int (own_cnt ln))] [(.int ap), (.int (3 : Int32)), (.int (own_ex (3 : Int32) ap ln (own_cnt ln) fl))])) _
    refine XS.iload X89.here hx rfl (hb hby at_177) rfl ?_
    show Steps p.tables e below (T89.setTop (mkF m 179 #[.val (.int x0), .val (.int s0), .val (.int a2), .val (.int f0), .val (.int ln), .val (.int ap), .val (.int fl), .val (.ref b1), .val (.int (own_pl 4 ap ap.toNatClampNeg ln [(.int (nar .byte fl)), (.int (nar .byte fl)), (.int (nar .byte fl)), (.int (nar .byte fl)), (.int (nar .byte fl)), (.int (nar .byte fl)), (.int (nar .byte fl)), (.int (nar .byte fl)), (.int (nar .byte fl))]).1), .val (.int (own_cnt ln))] [(.int ln), (.int ap), (.int (3 : Int32)), (.int (own_ex (3 : Int32) ap ln (own_cnt ln) fl))])) _
    refine XS.iload X89.here hx rfl (hb hby at_179) rfl ?_
    show Steps p.tables e below (T89.setTop (mkF m 181 #[.val (.int x0), .val (.int s0), .val (.int a2), .val (.int f0), .val (.int ln), .val (.int ap), .val (.int fl), .val (.ref b1), .val (.int (own_pl 4 ap ap.toNatClampNeg ln [(.int (nar .byte fl)), (.int (nar .byte fl)), (.int (nar .byte fl)), (.int (nar .byte fl)), (.int (nar .byte fl)), (.int (nar .byte fl)), (.int (nar .byte fl)), (.int (nar .byte fl)), (.int (nar .byte fl))]).1), .val (.int (own_cnt ln))] [(.int (own_cnt ln)), (.int ln), (.int ap), (.int (3 : Int32)), (.int (own_ex (3 : Int32) ap ln (own_cnt ln) fl))])) _
    refine XS.iload X89.here hx rfl (hb hby at_181) rfl ?_
    show Steps p.tables e below (T89.setTop (mkF m 183 #[.val (.int x0), .val (.int s0), .val (.int a2), .val (.int f0), .val (.int ln), .val (.int ap), .val (.int fl), .val (.ref b1), .val (.int (own_pl 4 ap ap.toNatClampNeg ln [(.int (nar .byte fl)), (.int (nar .byte fl)), (.int (nar .byte fl)), (.int (nar .byte fl)), (.int (nar .byte fl)), (.int (nar .byte fl)), (.int (nar .byte fl)), (.int (nar .byte fl)), (.int (nar .byte fl))]).1), .val (.int (own_cnt ln))] [(.int fl), (.int (own_cnt ln)), (.int ln), (.int ap), (.int (3 : Int32)), (.int (own_ex (3 : Int32) ap ln (own_cnt ln) fl))])) _
    exact k
  obtain ⟨_, _, ⟨T97, L97, k97, n97⟩, -, X97, ⟨Lc97, hQ97, l97, y97, z97⟩, st97⟩ := Jvm.LawKit.callS X89 hx (y := (⟨"com/example/sluice/sluice/state/SnapshotOutputPutLengthPinLaw", "expected", "(IIIIB)B"⟩ : MethodName)) hown (mvT hZ (hw _ (List.mem_of_getElem? (i := 12) rfl))) (mvT hZ (hw _ (List.mem_of_getElem? (i := 13) rfl))) (mvT hZ (hw _ (List.mem_of_getElem? (i := 8) rfl))) (mvT hZ (hw _ (List.mem_of_getElem? (i := 14) rfl))) (by decide) (backOf (W := 1) (rm3 l Z a0 hw [] (3 : Int32) ap ln (own_cnt ln) fl h60 n0 Z62 hfn) hZ (hw _ (List.mem_of_getElem? (i := 14) rfl)) (hw _ (List.mem_of_getElem? (i := 8) rfl)) (by decide) (by decide)) (g := (mkF m 183 #[.val (.int x0), .val (.int s0), .val (.int a2), .val (.int f0), .val (.int ln), .val (.int ap), .val (.int fl), .val (.ref b1), .val (.int (own_pl 4 ap ap.toNatClampNeg ln [(.int (nar .byte fl)), (.int (nar .byte fl)), (.int (nar .byte fl)), (.int (nar .byte fl)), (.int (nar .byte fl)), (.int (nar .byte fl)), (.int (nar .byte fl)), (.int (nar .byte fl)), (.int (nar .byte fl))]).1), .val (.int (own_cnt ln))] [(.int fl), (.int (own_cnt ln)), (.int ln), (.int ap), (.int (3 : Int32)), (.int (own_ex (3 : Int32) ap ln (own_cnt ln) fl))])) rfl (by rw [hml]; rfl) (argsL := [(.int (3 : Int32)), (.int ap), (.int ln), (.int (own_cnt ln)), (.int fl)]) (rest := [(.int (own_ex (3 : Int32) ap ln (own_cnt ln) fl))]) (lenOf pd_exp rfl) rfl (by show 2 * 0 + _ ≤ _; exact Nat.le_of_eq rfl) (hb hby at_183) (fun _ _ => ⟨rfl, heq89, (by decide : 1 + 0 ≤ _), (by decide : 9 + 0 ≤ _)⟩)
  dsimp only [Pt.U, Pt.locs, Pt.cells, Pt.slots] at X97 l97 y97 z97 st97 hQ97
  subst l97 y97 z97
  obtain ⟨rfl, Nq97, heq97⟩ := hQ97
  have N97 := Fr.app N89 Nq97
  have pre98 : ∀ t, Steps p.tables e below (T97.setTop (mkF m 186 #[.val (.int x0), .val (.int s0), .val (.int a2), .val (.int f0), .val (.int ln), .val (.int ap), .val (.int fl), .val (.ref b1), .val (.int (own_pl 4 ap ap.toNatClampNeg ln [(.int (nar .byte fl)), (.int (nar .byte fl)), (.int (nar .byte fl)), (.int (nar .byte fl)), (.int (nar .byte fl)), (.int (nar .byte fl)), (.int (nar .byte fl)), (.int (nar .byte fl)), (.int (nar .byte fl))]).1), .val (.int (own_cnt ln))] [(.int (own_ex (3 : Int32) ap ln (own_cnt ln) fl)), (.int (own_ex (3 : Int32) ap ln (own_cnt ln) fl))])) t → Steps p.tables e below (s₁.setTop (entryFrame m #[(.int x0), (.int s0), (.int a2), (.int f0)] maxLocals)) t := fun t k => pre95 t (st97 t k)
  have pre99 : ∀ t, Steps p.tables e below (T97.setTop (mkF m 192 #[.val (.int x0), .val (.int s0), .val (.int a2), .val (.int f0), .val (.int ln), .val (.int ap), .val (.int fl), .val (.ref b1), .val (.int (own_pl 4 ap ap.toNatClampNeg ln [(.int (nar .byte fl)), (.int (nar .byte fl)), (.int (nar .byte fl)), (.int (nar .byte fl)), (.int (nar .byte fl)), (.int (nar .byte fl)), (.int (nar .byte fl)), (.int (nar .byte fl)), (.int (nar .byte fl))]).1), .val (.int (own_cnt ln))] [(.int (4 : Int32)), (.ref b1)])) t → Steps p.tables e below (s₁.setTop (entryFrame m #[(.int x0), (.int s0), (.int a2), (.int f0)] maxLocals)) t := by
    intro t k
    refine pre98 t ?_
    refine XS.icmpNo X97.here hx rfl (hb hby at_186) rfl (XT.ii_ne_f rfl) ?_
    show Steps p.tables e below (T97.setTop (mkF m 189 #[.val (.int x0), .val (.int s0), .val (.int a2), .val (.int f0), .val (.int ln), .val (.int ap), .val (.int fl), .val (.ref b1), .val (.int (own_pl 4 ap ap.toNatClampNeg ln [(.int (nar .byte fl)), (.int (nar .byte fl)), (.int (nar .byte fl)), (.int (nar .byte fl)), (.int (nar .byte fl)), (.int (nar .byte fl)), (.int (nar .byte fl)), (.int (nar .byte fl)), (.int (nar .byte fl))]).1), .val (.int (own_cnt ln))] [])) _
    refine XS.aload X97.here hx rfl (hb hby at_189) rfl rfl ?_
    show Steps p.tables e below (T97.setTop (mkF m 191 #[.val (.int x0), .val (.int s0), .val (.int a2), .val (.int f0), .val (.int ln), .val (.int ap), .val (.int fl), .val (.ref b1), .val (.int (own_pl 4 ap ap.toNatClampNeg ln [(.int (nar .byte fl)), (.int (nar .byte fl)), (.int (nar .byte fl)), (.int (nar .byte fl)), (.int (nar .byte fl)), (.int (nar .byte fl)), (.int (nar .byte fl)), (.int (nar .byte fl)), (.int (nar .byte fl))]).1), .val (.int (own_cnt ln))] [(.ref b1)])) _
    refine XS.iconst X97.here hx rfl (hb hby at_191) ?_
    show Steps p.tables e below (T97.setTop (mkF m 192 #[.val (.int x0), .val (.int s0), .val (.int a2), .val (.int f0), .val (.int ln), .val (.int ap), .val (.int fl), .val (.ref b1), .val (.int (own_pl 4 ap ap.toNatClampNeg ln [(.int (nar .byte fl)), (.int (nar .byte fl)), (.int (nar .byte fl)), (.int (nar .byte fl)), (.int (nar .byte fl)), (.int (nar .byte fl)), (.int (nar .byte fl)), (.int (nar .byte fl)), (.int (nar .byte fl))]).1), .val (.int (own_cnt ln))] [(.int (4 : Int32)), (.ref b1)])) _
    exact k
  obtain ⟨cc100, Ar100, q1_100, Sz100, q3_100, Hs100, G100⟩ := id Va60
  have hin100 : ¬ ((4 : Int32) < 0 ∨ cc100.slots.size ≤ ((4 : Int32) : Int32).toNatClampNeg) := inb_of Sz100 ⟨(by decide), (by decide)⟩
  have hat100 : cc100.slots[((4 : Int32) : Int32).toNatClampNeg]? = some (.int (own_ex (4 : Int32) ap ln (own_cnt ln) fl)) := Hs100.at hin100 hz.2.2.2.2.2.1
  have pre103 : ∀ t, Steps p.tables e below (T97.setTop (mkF m 202 #[.val (.int x0), .val (.int s0), .val (.int a2), .val (.int f0), .val (.int ln), .val (.int ap), .val (.int fl), .val (.ref b1), .val (.int (own_pl 4 ap ap.toNatClampNeg ln [(.int (nar .byte fl)), (.int (nar .byte fl)), (.int (nar .byte fl)), (.int (nar .byte fl)), (.int (nar .byte fl)), (.int (nar .byte fl)), (.int (nar .byte fl)), (.int (nar .byte fl)), (.int (nar .byte fl))]).1), .val (.int (own_cnt ln))] [(.int fl), (.int (own_cnt ln)), (.int ln), (.int ap), (.int (4 : Int32)), (.int (own_ex (4 : Int32) ap ln (own_cnt ln) fl))])) t → Steps p.tables e below (s₁.setTop (entryFrame m #[(.int x0), (.int s0), (.int a2), (.int f0)] maxLocals)) t := by
    intro t k
    refine pre99 t ?_
    refine X97.baloadBytes hx (j := (4 : Int32)) (v := (.int (own_ex (4 : Int32) ap ln (own_cnt ln) fl))) (by rw [heq97]; exact Ar100.1) (State.isArrayOf_alike hZ.alike Ar100.2.1) Ar100.2.2 hin100 hat100 (g := (mkF m 192 #[.val (.int x0), .val (.int s0), .val (.int a2), .val (.int f0), .val (.int ln), .val (.int ap), .val (.int fl), .val (.ref b1), .val (.int (own_pl 4 ap ap.toNatClampNeg ln [(.int (nar .byte fl)), (.int (nar .byte fl)), (.int (nar .byte fl)), (.int (nar .byte fl)), (.int (nar .byte fl)), (.int (nar .byte fl)), (.int (nar .byte fl)), (.int (nar .byte fl)), (.int (nar .byte fl))]).1), .val (.int (own_cnt ln))] [(.int (4 : Int32)), (.ref b1)])) rfl rfl (hb hby at_192) _ ?_
    show Steps p.tables e below (T97.setTop (mkF m 193 #[.val (.int x0), .val (.int s0), .val (.int a2), .val (.int f0), .val (.int ln), .val (.int ap), .val (.int fl), .val (.ref b1), .val (.int (own_pl 4 ap ap.toNatClampNeg ln [(.int (nar .byte fl)), (.int (nar .byte fl)), (.int (nar .byte fl)), (.int (nar .byte fl)), (.int (nar .byte fl)), (.int (nar .byte fl)), (.int (nar .byte fl)), (.int (nar .byte fl)), (.int (nar .byte fl))]).1), .val (.int (own_cnt ln))] [(.int (own_ex (4 : Int32) ap ln (own_cnt ln) fl))])) _
    refine XS.iconst X97.here hx rfl (hb hby at_193) ?_
    show Steps p.tables e below (T97.setTop (mkF m 194 #[.val (.int x0), .val (.int s0), .val (.int a2), .val (.int f0), .val (.int ln), .val (.int ap), .val (.int fl), .val (.ref b1), .val (.int (own_pl 4 ap ap.toNatClampNeg ln [(.int (nar .byte fl)), (.int (nar .byte fl)), (.int (nar .byte fl)), (.int (nar .byte fl)), (.int (nar .byte fl)), (.int (nar .byte fl)), (.int (nar .byte fl)), (.int (nar .byte fl)), (.int (nar .byte fl))]).1), .val (.int (own_cnt ln))] [(.int (4 : Int32)), (.int (own_ex (4 : Int32) ap ln (own_cnt ln) fl))])) _
    refine XS.iload X97.here hx rfl (hb hby at_194) rfl ?_
    show Steps p.tables e below (T97.setTop (mkF m 196 #[.val (.int x0), .val (.int s0), .val (.int a2), .val (.int f0), .val (.int ln), .val (.int ap), .val (.int fl), .val (.ref b1), .val (.int (own_pl 4 ap ap.toNatClampNeg ln [(.int (nar .byte fl)), (.int (nar .byte fl)), (.int (nar .byte fl)), (.int (nar .byte fl)), (.int (nar .byte fl)), (.int (nar .byte fl)), (.int (nar .byte fl)), (.int (nar .byte fl)), (.int (nar .byte fl))]).1), .val (.int (own_cnt ln))] [(.int ap), (.int (4 : Int32)), (.int (own_ex (4 : Int32) ap ln (own_cnt ln) fl))])) _
    refine XS.iload X97.here hx rfl (hb hby at_196) rfl ?_
    show Steps p.tables e below (T97.setTop (mkF m 198 #[.val (.int x0), .val (.int s0), .val (.int a2), .val (.int f0), .val (.int ln), .val (.int ap), .val (.int fl), .val (.ref b1), .val (.int (own_pl 4 ap ap.toNatClampNeg ln [(.int (nar .byte fl)), (.int (nar .byte fl)), (.int (nar .byte fl)), (.int (nar .byte fl)), (.int (nar .byte fl)), (.int (nar .byte fl)), (.int (nar .byte fl)), (.int (nar .byte fl)), (.int (nar .byte fl))]).1), .val (.int (own_cnt ln))] [(.int ln), (.int ap), (.int (4 : Int32)), (.int (own_ex (4 : Int32) ap ln (own_cnt ln) fl))])) _
    refine XS.iload X97.here hx rfl (hb hby at_198) rfl ?_
    show Steps p.tables e below (T97.setTop (mkF m 200 #[.val (.int x0), .val (.int s0), .val (.int a2), .val (.int f0), .val (.int ln), .val (.int ap), .val (.int fl), .val (.ref b1), .val (.int (own_pl 4 ap ap.toNatClampNeg ln [(.int (nar .byte fl)), (.int (nar .byte fl)), (.int (nar .byte fl)), (.int (nar .byte fl)), (.int (nar .byte fl)), (.int (nar .byte fl)), (.int (nar .byte fl)), (.int (nar .byte fl)), (.int (nar .byte fl))]).1), .val (.int (own_cnt ln))] [(.int (own_cnt ln)), (.int ln), (.int ap), (.int (4 : Int32)), (.int (own_ex (4 : Int32) ap ln (own_cnt ln) fl))])) _
    refine XS.iload X97.here hx rfl (hb hby at_200) rfl ?_
    show Steps p.tables e below (T97.setTop (mkF m 202 #[.val (.int x0), .val (.int s0), .val (.int a2), .val (.int f0), .val (.int ln), .val (.int ap), .val (.int fl), .val (.ref b1), .val (.int (own_pl 4 ap ap.toNatClampNeg ln [(.int (nar .byte fl)), (.int (nar .byte fl)), (.int (nar .byte fl)), (.int (nar .byte fl)), (.int (nar .byte fl)), (.int (nar .byte fl)), (.int (nar .byte fl)), (.int (nar .byte fl)), (.int (nar .byte fl))]).1), .val (.int (own_cnt ln))] [(.int fl), (.int (own_cnt ln)), (.int ln), (.int ap), (.int (4 : Int32)), (.int (own_ex (4 : Int32) ap ln (own_cnt ln) fl))])) _
    exact k
  obtain ⟨_, _, ⟨T105, L105, k105, n105⟩, -, X105, ⟨Lc105, hQ105, l105, y105, z105⟩, st105⟩ := Jvm.LawKit.callS X97 hx (y := (⟨"com/example/sluice/sluice/state/SnapshotOutputPutLengthPinLaw", "expected", "(IIIIB)B"⟩ : MethodName)) hown (mvT hZ (hw _ (List.mem_of_getElem? (i := 12) rfl))) (mvT hZ (hw _ (List.mem_of_getElem? (i := 13) rfl))) (mvT hZ (hw _ (List.mem_of_getElem? (i := 8) rfl))) (mvT hZ (hw _ (List.mem_of_getElem? (i := 14) rfl))) (by decide) (backOf (W := 1) (rm3 l Z a0 hw [] (4 : Int32) ap ln (own_cnt ln) fl h60 n0 Z62 hfn) hZ (hw _ (List.mem_of_getElem? (i := 14) rfl)) (hw _ (List.mem_of_getElem? (i := 8) rfl)) (by decide) (by decide)) (g := (mkF m 202 #[.val (.int x0), .val (.int s0), .val (.int a2), .val (.int f0), .val (.int ln), .val (.int ap), .val (.int fl), .val (.ref b1), .val (.int (own_pl 4 ap ap.toNatClampNeg ln [(.int (nar .byte fl)), (.int (nar .byte fl)), (.int (nar .byte fl)), (.int (nar .byte fl)), (.int (nar .byte fl)), (.int (nar .byte fl)), (.int (nar .byte fl)), (.int (nar .byte fl)), (.int (nar .byte fl))]).1), .val (.int (own_cnt ln))] [(.int fl), (.int (own_cnt ln)), (.int ln), (.int ap), (.int (4 : Int32)), (.int (own_ex (4 : Int32) ap ln (own_cnt ln) fl))])) rfl (by rw [hml]; rfl) (argsL := [(.int (4 : Int32)), (.int ap), (.int ln), (.int (own_cnt ln)), (.int fl)]) (rest := [(.int (own_ex (4 : Int32) ap ln (own_cnt ln) fl))]) (lenOf pd_exp rfl) rfl (by show 2 * 0 + _ ≤ _; exact Nat.le_of_eq rfl) (hb hby at_202) (fun _ _ => ⟨rfl, heq97, (by decide : 1 + 0 ≤ _), (by decide : 9 + 0 ≤ _)⟩)
  dsimp only [Pt.U, Pt.locs, Pt.cells, Pt.slots] at X105 l105 y105 z105 st105 hQ105
  subst l105 y105 z105
  obtain ⟨rfl, Nq105, heq105⟩ := hQ105
  have N105 := Fr.app N97 Nq105
  have pre106 : ∀ t, Steps p.tables e below (T105.setTop (mkF m 205 #[.val (.int x0), .val (.int s0), .val (.int a2), .val (.int f0), .val (.int ln), .val (.int ap), .val (.int fl), .val (.ref b1), .val (.int (own_pl 4 ap ap.toNatClampNeg ln [(.int (nar .byte fl)), (.int (nar .byte fl)), (.int (nar .byte fl)), (.int (nar .byte fl)), (.int (nar .byte fl)), (.int (nar .byte fl)), (.int (nar .byte fl)), (.int (nar .byte fl)), (.int (nar .byte fl))]).1), .val (.int (own_cnt ln))] [(.int (own_ex (4 : Int32) ap ln (own_cnt ln) fl)), (.int (own_ex (4 : Int32) ap ln (own_cnt ln) fl))])) t → Steps p.tables e below (s₁.setTop (entryFrame m #[(.int x0), (.int s0), (.int a2), (.int f0)] maxLocals)) t := fun t k => pre103 t (st105 t k)
  have pre107 : ∀ t, Steps p.tables e below (T105.setTop (mkF m 211 #[.val (.int x0), .val (.int s0), .val (.int a2), .val (.int f0), .val (.int ln), .val (.int ap), .val (.int fl), .val (.ref b1), .val (.int (own_pl 4 ap ap.toNatClampNeg ln [(.int (nar .byte fl)), (.int (nar .byte fl)), (.int (nar .byte fl)), (.int (nar .byte fl)), (.int (nar .byte fl)), (.int (nar .byte fl)), (.int (nar .byte fl)), (.int (nar .byte fl)), (.int (nar .byte fl))]).1), .val (.int (own_cnt ln))] [(.int (5 : Int32)), (.ref b1)])) t → Steps p.tables e below (s₁.setTop (entryFrame m #[(.int x0), (.int s0), (.int a2), (.int f0)] maxLocals)) t := by
    intro t k
    refine pre106 t ?_
    refine XS.icmpNo X105.here hx rfl (hb hby at_205) rfl (XT.ii_ne_f rfl) ?_
    show Steps p.tables e below (T105.setTop (mkF m 208 #[.val (.int x0), .val (.int s0), .val (.int a2), .val (.int f0), .val (.int ln), .val (.int ap), .val (.int fl), .val (.ref b1), .val (.int (own_pl 4 ap ap.toNatClampNeg ln [(.int (nar .byte fl)), (.int (nar .byte fl)), (.int (nar .byte fl)), (.int (nar .byte fl)), (.int (nar .byte fl)), (.int (nar .byte fl)), (.int (nar .byte fl)), (.int (nar .byte fl)), (.int (nar .byte fl))]).1), .val (.int (own_cnt ln))] [])) _
    refine XS.aload X105.here hx rfl (hb hby at_208) rfl rfl ?_
    show Steps p.tables e below (T105.setTop (mkF m 210 #[.val (.int x0), .val (.int s0), .val (.int a2), .val (.int f0), .val (.int ln), .val (.int ap), .val (.int fl), .val (.ref b1), .val (.int (own_pl 4 ap ap.toNatClampNeg ln [(.int (nar .byte fl)), (.int (nar .byte fl)), (.int (nar .byte fl)), (.int (nar .byte fl)), (.int (nar .byte fl)), (.int (nar .byte fl)), (.int (nar .byte fl)), (.int (nar .byte fl)), (.int (nar .byte fl))]).1), .val (.int (own_cnt ln))] [(.ref b1)])) _
    refine XS.iconst X105.here hx rfl (hb hby at_210) ?_
    show Steps p.tables e below (T105.setTop (mkF m 211 #[.val (.int x0), .val (.int s0), .val (.int a2), .val (.int f0), .val (.int ln), .val (.int ap), .val (.int fl), .val (.ref b1), .val (.int (own_pl 4 ap ap.toNatClampNeg ln [(.int (nar .byte fl)), (.int (nar .byte fl)), (.int (nar .byte fl)), (.int (nar .byte fl)), (.int (nar .byte fl)), (.int (nar .byte fl)), (.int (nar .byte fl)), (.int (nar .byte fl)), (.int (nar .byte fl))]).1), .val (.int (own_cnt ln))] [(.int (5 : Int32)), (.ref b1)])) _
    exact k
  obtain ⟨cc108, Ar108, q1_108, Sz108, q3_108, Hs108, G108⟩ := id Va60
  have hin108 : ¬ ((5 : Int32) < 0 ∨ cc108.slots.size ≤ ((5 : Int32) : Int32).toNatClampNeg) := inb_of Sz108 ⟨(by decide), (by decide)⟩
  have hat108 : cc108.slots[((5 : Int32) : Int32).toNatClampNeg]? = some (.int (own_ex (5 : Int32) ap ln (own_cnt ln) fl)) := Hs108.at hin108 hz.2.2.2.2.2.2.1
  have pre111 : ∀ t, Steps p.tables e below (T105.setTop (mkF m 221 #[.val (.int x0), .val (.int s0), .val (.int a2), .val (.int f0), .val (.int ln), .val (.int ap), .val (.int fl), .val (.ref b1), .val (.int (own_pl 4 ap ap.toNatClampNeg ln [(.int (nar .byte fl)), (.int (nar .byte fl)), (.int (nar .byte fl)), (.int (nar .byte fl)), (.int (nar .byte fl)), (.int (nar .byte fl)), (.int (nar .byte fl)), (.int (nar .byte fl)), (.int (nar .byte fl))]).1), .val (.int (own_cnt ln))] [(.int fl), (.int (own_cnt ln)), (.int ln), (.int ap), (.int (5 : Int32)), (.int (own_ex (5 : Int32) ap ln (own_cnt ln) fl))])) t → Steps p.tables e below (s₁.setTop (entryFrame m #[(.int x0), (.int s0), (.int a2), (.int f0)] maxLocals)) t := by
    intro t k
    refine pre107 t ?_
    refine X105.baloadBytes hx (j := (5 : Int32)) (v := (.int (own_ex (5 : Int32) ap ln (own_cnt ln) fl))) (by rw [heq105]; exact Ar108.1) (State.isArrayOf_alike hZ.alike Ar108.2.1) Ar108.2.2 hin108 hat108 (g := (mkF m 211 #[.val (.int x0), .val (.int s0), .val (.int a2), .val (.int f0), .val (.int ln), .val (.int ap), .val (.int fl), .val (.ref b1), .val (.int (own_pl 4 ap ap.toNatClampNeg ln [(.int (nar .byte fl)), (.int (nar .byte fl)), (.int (nar .byte fl)), (.int (nar .byte fl)), (.int (nar .byte fl)), (.int (nar .byte fl)), (.int (nar .byte fl)), (.int (nar .byte fl)), (.int (nar .byte fl))]).1), .val (.int (own_cnt ln))] [(.int (5 : Int32)), (.ref b1)])) rfl rfl (hb hby at_211) _ ?_
    show Steps p.tables e below (T105.setTop (mkF m 212 #[.val (.int x0), .val (.int s0), .val (.int a2), .val (.int f0), .val (.int ln), .val (.int ap), .val (.int fl), .val (.ref b1), .val (.int (own_pl 4 ap ap.toNatClampNeg ln [(.int (nar .byte fl)), (.int (nar .byte fl)), (.int (nar .byte fl)), (.int (nar .byte fl)), (.int (nar .byte fl)), (.int (nar .byte fl)), (.int (nar .byte fl)), (.int (nar .byte fl)), (.int (nar .byte fl))]).1), .val (.int (own_cnt ln))] [(.int (own_ex (5 : Int32) ap ln (own_cnt ln) fl))])) _
    refine XS.iconst X105.here hx rfl (hb hby at_212) ?_
    show Steps p.tables e below (T105.setTop (mkF m 213 #[.val (.int x0), .val (.int s0), .val (.int a2), .val (.int f0), .val (.int ln), .val (.int ap), .val (.int fl), .val (.ref b1), .val (.int (own_pl 4 ap ap.toNatClampNeg ln [(.int (nar .byte fl)), (.int (nar .byte fl)), (.int (nar .byte fl)), (.int (nar .byte fl)), (.int (nar .byte fl)), (.int (nar .byte fl)), (.int (nar .byte fl)), (.int (nar .byte fl)), (.int (nar .byte fl))]).1), .val (.int (own_cnt ln))] [(.int (5 : Int32)), (.int (own_ex (5 : Int32) ap ln (own_cnt ln) fl))])) _
    refine XS.iload X105.here hx rfl (hb hby at_213) rfl ?_
    show Steps p.tables e below (T105.setTop (mkF m 215 #[.val (.int x0), .val (.int s0), .val (.int a2), .val (.int f0), .val (.int ln), .val (.int ap), .val (.int fl), .val (.ref b1), .val (.int (own_pl 4 ap ap.toNatClampNeg ln [(.int (nar .byte fl)), (.int (nar .byte fl)), (.int (nar .byte fl)), (.int (nar .byte fl)), (.int (nar .byte fl)), (.int (nar .byte fl)), (.int (nar .byte fl)), (.int (nar .byte fl)), (.int (nar .byte fl))]).1), .val (.int (own_cnt ln))] [(.int ap), (.int (5 : Int32)), (.int (own_ex (5 : Int32) ap ln (own_cnt ln) fl))])) _
    refine XS.iload X105.here hx rfl (hb hby at_215) rfl ?_
    show Steps p.tables e below (T105.setTop (mkF m 217 #[.val (.int x0), .val (.int s0), .val (.int a2), .val (.int f0), .val (.int ln), .val (.int ap), .val (.int fl), .val (.ref b1), .val (.int (own_pl 4 ap ap.toNatClampNeg ln [(.int (nar .byte fl)), (.int (nar .byte fl)), (.int (nar .byte fl)), (.int (nar .byte fl)), (.int (nar .byte fl)), (.int (nar .byte fl)), (.int (nar .byte fl)), (.int (nar .byte fl)), (.int (nar .byte fl))]).1), .val (.int (own_cnt ln))] [(.int ln), (.int ap), (.int (5 : Int32)), (.int (own_ex (5 : Int32) ap ln (own_cnt ln) fl))])) _
    refine XS.iload X105.here hx rfl (hb hby at_217) rfl ?_
    show Steps p.tables e below (T105.setTop (mkF m 219 #[.val (.int x0), .val (.int s0), .val (.int a2), .val (.int f0), .val (.int ln), .val (.int ap), .val (.int fl), .val (.ref b1), .val (.int (own_pl 4 ap ap.toNatClampNeg ln [(.int (nar .byte fl)), (.int (nar .byte fl)), (.int (nar .byte fl)), (.int (nar .byte fl)), (.int (nar .byte fl)), (.int (nar .byte fl)), (.int (nar .byte fl)), (.int (nar .byte fl)), (.int (nar .byte fl))]).1), .val (.int (own_cnt ln))] [(.int (own_cnt ln)), (.int ln), (.int ap), (.int (5 : Int32)), (.int (own_ex (5 : Int32) ap ln (own_cnt ln) fl))])) _
    refine XS.iload X105.here hx rfl (hb hby at_219) rfl ?_
    show Steps p.tables e below (T105.setTop (mkF m 221 #[.val (.int x0), .val (.int s0), .val (.int a2), .val (.int f0), .val (.int ln), .val (.int ap), .val (.int fl), .val (.ref b1), .val (.int (own_pl 4 ap ap.toNatClampNeg ln [(.int (nar .byte fl)), (.int (nar .byte fl)), (.int (nar .byte fl)), (.int (nar .byte fl)), (.int (nar .byte fl)), (.int (nar .byte fl)), (.int (nar .byte fl)), (.int (nar .byte fl)), (.int (nar .byte fl))]).1), .val (.int (own_cnt ln))] [(.int fl), (.int (own_cnt ln)), (.int ln), (.int ap), (.int (5 : Int32)), (.int (own_ex (5 : Int32) ap ln (own_cnt ln) fl))])) _
    exact k
  obtain ⟨_, _, ⟨T113, L113, k113, n113⟩, -, X113, ⟨Lc113, hQ113, l113, y113, z113⟩, st113⟩ := Jvm.LawKit.callS X105 hx (y := (⟨"com/example/sluice/sluice/state/SnapshotOutputPutLengthPinLaw", "expected", "(IIIIB)B"⟩ : MethodName)) hown (mvT hZ (hw _ (List.mem_of_getElem? (i := 12) rfl))) (mvT hZ (hw _ (List.mem_of_getElem? (i := 13) rfl))) (mvT hZ (hw _ (List.mem_of_getElem? (i := 8) rfl))) (mvT hZ (hw _ (List.mem_of_getElem? (i := 14) rfl))) (by decide) (backOf (W := 1) (rm3 l Z a0 hw [] (5 : Int32) ap ln (own_cnt ln) fl h60 n0 Z62 hfn) hZ (hw _ (List.mem_of_getElem? (i := 14) rfl)) (hw _ (List.mem_of_getElem? (i := 8) rfl)) (by decide) (by decide)) (g := (mkF m 221 #[.val (.int x0), .val (.int s0), .val (.int a2), .val (.int f0), .val (.int ln), .val (.int ap), .val (.int fl), .val (.ref b1), .val (.int (own_pl 4 ap ap.toNatClampNeg ln [(.int (nar .byte fl)), (.int (nar .byte fl)), (.int (nar .byte fl)), (.int (nar .byte fl)), (.int (nar .byte fl)), (.int (nar .byte fl)), (.int (nar .byte fl)), (.int (nar .byte fl)), (.int (nar .byte fl))]).1), .val (.int (own_cnt ln))] [(.int fl), (.int (own_cnt ln)), (.int ln), (.int ap), (.int (5 : Int32)), (.int (own_ex (5 : Int32) ap ln (own_cnt ln) fl))])) rfl (by rw [hml]; rfl) (argsL := [(.int (5 : Int32)), (.int ap), (.int ln), (.int (own_cnt ln)), (.int fl)]) (rest := [(.int (own_ex (5 : Int32) ap ln (own_cnt ln) fl))]) (lenOf pd_exp rfl) rfl (by show 2 * 0 + _ ≤ _; exact Nat.le_of_eq rfl) (hb hby at_221) (fun _ _ => ⟨rfl, heq105, (by decide : 1 + 0 ≤ _), (by decide : 9 + 0 ≤ _)⟩)
  dsimp only [Pt.U, Pt.locs, Pt.cells, Pt.slots] at X113 l113 y113 z113 st113 hQ113
  subst l113 y113 z113
  obtain ⟨rfl, Nq113, heq113⟩ := hQ113
  have N113 := Fr.app N105 Nq113
  have pre114 : ∀ t, Steps p.tables e below (T113.setTop (mkF m 224 #[.val (.int x0), .val (.int s0), .val (.int a2), .val (.int f0), .val (.int ln), .val (.int ap), .val (.int fl), .val (.ref b1), .val (.int (own_pl 4 ap ap.toNatClampNeg ln [(.int (nar .byte fl)), (.int (nar .byte fl)), (.int (nar .byte fl)), (.int (nar .byte fl)), (.int (nar .byte fl)), (.int (nar .byte fl)), (.int (nar .byte fl)), (.int (nar .byte fl)), (.int (nar .byte fl))]).1), .val (.int (own_cnt ln))] [(.int (own_ex (5 : Int32) ap ln (own_cnt ln) fl)), (.int (own_ex (5 : Int32) ap ln (own_cnt ln) fl))])) t → Steps p.tables e below (s₁.setTop (entryFrame m #[(.int x0), (.int s0), (.int a2), (.int f0)] maxLocals)) t := fun t k => pre111 t (st113 t k)
  have pre115 : ∀ t, Steps p.tables e below (T113.setTop (mkF m 231 #[.val (.int x0), .val (.int s0), .val (.int a2), .val (.int f0), .val (.int ln), .val (.int ap), .val (.int fl), .val (.ref b1), .val (.int (own_pl 4 ap ap.toNatClampNeg ln [(.int (nar .byte fl)), (.int (nar .byte fl)), (.int (nar .byte fl)), (.int (nar .byte fl)), (.int (nar .byte fl)), (.int (nar .byte fl)), (.int (nar .byte fl)), (.int (nar .byte fl)), (.int (nar .byte fl))]).1), .val (.int (own_cnt ln))] [(.int (6 : Int32)), (.ref b1)])) t → Steps p.tables e below (s₁.setTop (entryFrame m #[(.int x0), (.int s0), (.int a2), (.int f0)] maxLocals)) t := by
    intro t k
    refine pre114 t ?_
    refine XS.icmpNo X113.here hx rfl (hb hby at_224) rfl (XT.ii_ne_f rfl) ?_
    show Steps p.tables e below (T113.setTop (mkF m 227 #[.val (.int x0), .val (.int s0), .val (.int a2), .val (.int f0), .val (.int ln), .val (.int ap), .val (.int fl), .val (.ref b1), .val (.int (own_pl 4 ap ap.toNatClampNeg ln [(.int (nar .byte fl)), (.int (nar .byte fl)), (.int (nar .byte fl)), (.int (nar .byte fl)), (.int (nar .byte fl)), (.int (nar .byte fl)), (.int (nar .byte fl)), (.int (nar .byte fl)), (.int (nar .byte fl))]).1), .val (.int (own_cnt ln))] [])) _
    refine XS.aload X113.here hx rfl (hb hby at_227) rfl rfl ?_
    show Steps p.tables e below (T113.setTop (mkF m 229 #[.val (.int x0), .val (.int s0), .val (.int a2), .val (.int f0), .val (.int ln), .val (.int ap), .val (.int fl), .val (.ref b1), .val (.int (own_pl 4 ap ap.toNatClampNeg ln [(.int (nar .byte fl)), (.int (nar .byte fl)), (.int (nar .byte fl)), (.int (nar .byte fl)), (.int (nar .byte fl)), (.int (nar .byte fl)), (.int (nar .byte fl)), (.int (nar .byte fl)), (.int (nar .byte fl))]).1), .val (.int (own_cnt ln))] [(.ref b1)])) _
    refine XS.bipush X113.here hx rfl (hb hby at_229) ?_
    show Steps p.tables e below (T113.setTop (mkF m 231 #[.val (.int x0), .val (.int s0), .val (.int a2), .val (.int f0), .val (.int ln), .val (.int ap), .val (.int fl), .val (.ref b1), .val (.int (own_pl 4 ap ap.toNatClampNeg ln [(.int (nar .byte fl)), (.int (nar .byte fl)), (.int (nar .byte fl)), (.int (nar .byte fl)), (.int (nar .byte fl)), (.int (nar .byte fl)), (.int (nar .byte fl)), (.int (nar .byte fl)), (.int (nar .byte fl))]).1), .val (.int (own_cnt ln))] [(.int (6 : Int32)), (.ref b1)])) _
    exact k
  obtain ⟨cc116, Ar116, q1_116, Sz116, q3_116, Hs116, G116⟩ := id Va60
  have hin116 : ¬ ((6 : Int32) < 0 ∨ cc116.slots.size ≤ ((6 : Int32) : Int32).toNatClampNeg) := inb_of Sz116 ⟨(by decide), (by decide)⟩
  have hat116 : cc116.slots[((6 : Int32) : Int32).toNatClampNeg]? = some (.int (own_ex (6 : Int32) ap ln (own_cnt ln) fl)) := Hs116.at hin116 hz.2.2.2.2.2.2.2.1
  have pre119 : ∀ t, Steps p.tables e below (T113.setTop (mkF m 242 #[.val (.int x0), .val (.int s0), .val (.int a2), .val (.int f0), .val (.int ln), .val (.int ap), .val (.int fl), .val (.ref b1), .val (.int (own_pl 4 ap ap.toNatClampNeg ln [(.int (nar .byte fl)), (.int (nar .byte fl)), (.int (nar .byte fl)), (.int (nar .byte fl)), (.int (nar .byte fl)), (.int (nar .byte fl)), (.int (nar .byte fl)), (.int (nar .byte fl)), (.int (nar .byte fl))]).1), .val (.int (own_cnt ln))] [(.int fl), (.int (own_cnt ln)), (.int ln), (.int ap), (.int (6 : Int32)), (.int (own_ex (6 : Int32) ap ln (own_cnt ln) fl))])) t → Steps p.tables e below (s₁.setTop (entryFrame m #[(.int x0), (.int s0), (.int a2), (.int f0)] maxLocals)) t := by
    intro t k
    refine pre115 t ?_
    refine X113.baloadBytes hx (j := (6 : Int32)) (v := (.int (own_ex (6 : Int32) ap ln (own_cnt ln) fl))) (by rw [heq113]; exact Ar116.1) (State.isArrayOf_alike hZ.alike Ar116.2.1) Ar116.2.2 hin116 hat116 (g := (mkF m 231 #[.val (.int x0), .val (.int s0), .val (.int a2), .val (.int f0), .val (.int ln), .val (.int ap), .val (.int fl), .val (.ref b1), .val (.int (own_pl 4 ap ap.toNatClampNeg ln [(.int (nar .byte fl)), (.int (nar .byte fl)), (.int (nar .byte fl)), (.int (nar .byte fl)), (.int (nar .byte fl)), (.int (nar .byte fl)), (.int (nar .byte fl)), (.int (nar .byte fl)), (.int (nar .byte fl))]).1), .val (.int (own_cnt ln))] [(.int (6 : Int32)), (.ref b1)])) rfl rfl (hb hby at_231) _ ?_
    show Steps p.tables e below (T113.setTop (mkF m 232 #[.val (.int x0), .val (.int s0), .val (.int a2), .val (.int f0), .val (.int ln), .val (.int ap), .val (.int fl), .val (.ref b1), .val (.int (own_pl 4 ap ap.toNatClampNeg ln [(.int (nar .byte fl)), (.int (nar .byte fl)), (.int (nar .byte fl)), (.int (nar .byte fl)), (.int (nar .byte fl)), (.int (nar .byte fl)), (.int (nar .byte fl)), (.int (nar .byte fl)), (.int (nar .byte fl))]).1), .val (.int (own_cnt ln))] [(.int (own_ex (6 : Int32) ap ln (own_cnt ln) fl))])) _
    refine XS.bipush X113.here hx rfl (hb hby at_232) ?_
    show Steps p.tables e below (T113.setTop (mkF m 234 #[.val (.int x0), .val (.int s0), .val (.int a2), .val (.int f0), .val (.int ln), .val (.int ap), .val (.int fl), .val (.ref b1), .val (.int (own_pl 4 ap ap.toNatClampNeg ln [(.int (nar .byte fl)), (.int (nar .byte fl)), (.int (nar .byte fl)), (.int (nar .byte fl)), (.int (nar .byte fl)), (.int (nar .byte fl)), (.int (nar .byte fl)), (.int (nar .byte fl)), (.int (nar .byte fl))]).1), .val (.int (own_cnt ln))] [(.int (6 : Int32)), (.int (own_ex (6 : Int32) ap ln (own_cnt ln) fl))])) _
    refine XS.iload X113.here hx rfl (hb hby at_234) rfl ?_
    show Steps p.tables e below (T113.setTop (mkF m 236 #[.val (.int x0), .val (.int s0), .val (.int a2), .val (.int f0), .val (.int ln), .val (.int ap), .val (.int fl), .val (.ref b1), .val (.int (own_pl 4 ap ap.toNatClampNeg ln [(.int (nar .byte fl)), (.int (nar .byte fl)), (.int (nar .byte fl)), (.int (nar .byte fl)), (.int (nar .byte fl)), (.int (nar .byte fl)), (.int (nar .byte fl)), (.int (nar .byte fl)), (.int (nar .byte fl))]).1), .val (.int (own_cnt ln))] [(.int ap), (.int (6 : Int32)), (.int (own_ex (6 : Int32) ap ln (own_cnt ln) fl))])) _
    refine XS.iload X113.here hx rfl (hb hby at_236) rfl ?_
    show Steps p.tables e below (T113.setTop (mkF m 238 #[.val (.int x0), .val (.int s0), .val (.int a2), .val (.int f0), .val (.int ln), .val (.int ap), .val (.int fl), .val (.ref b1), .val (.int (own_pl 4 ap ap.toNatClampNeg ln [(.int (nar .byte fl)), (.int (nar .byte fl)), (.int (nar .byte fl)), (.int (nar .byte fl)), (.int (nar .byte fl)), (.int (nar .byte fl)), (.int (nar .byte fl)), (.int (nar .byte fl)), (.int (nar .byte fl))]).1), .val (.int (own_cnt ln))] [(.int ln), (.int ap), (.int (6 : Int32)), (.int (own_ex (6 : Int32) ap ln (own_cnt ln) fl))])) _
    refine XS.iload X113.here hx rfl (hb hby at_238) rfl ?_
    show Steps p.tables e below (T113.setTop (mkF m 240 #[.val (.int x0), .val (.int s0), .val (.int a2), .val (.int f0), .val (.int ln), .val (.int ap), .val (.int fl), .val (.ref b1), .val (.int (own_pl 4 ap ap.toNatClampNeg ln [(.int (nar .byte fl)), (.int (nar .byte fl)), (.int (nar .byte fl)), (.int (nar .byte fl)), (.int (nar .byte fl)), (.int (nar .byte fl)), (.int (nar .byte fl)), (.int (nar .byte fl)), (.int (nar .byte fl))]).1), .val (.int (own_cnt ln))] [(.int (own_cnt ln)), (.int ln), (.int ap), (.int (6 : Int32)), (.int (own_ex (6 : Int32) ap ln (own_cnt ln) fl))])) _
    refine XS.iload X113.here hx rfl (hb hby at_240) rfl ?_
    show Steps p.tables e below (T113.setTop (mkF m 242 #[.val (.int x0), .val (.int s0), .val (.int a2), .val (.int f0), .val (.int ln), .val (.int ap), .val (.int fl), .val (.ref b1), .val (.int (own_pl 4 ap ap.toNatClampNeg ln [(.int (nar .byte fl)), (.int (nar .byte fl)), (.int (nar .byte fl)), (.int (nar .byte fl)), (.int (nar .byte fl)), (.int (nar .byte fl)), (.int (nar .byte fl)), (.int (nar .byte fl)), (.int (nar .byte fl))]).1), .val (.int (own_cnt ln))] [(.int fl), (.int (own_cnt ln)), (.int ln), (.int ap), (.int (6 : Int32)), (.int (own_ex (6 : Int32) ap ln (own_cnt ln) fl))])) _
    exact k
  obtain ⟨_, _, ⟨T121, L121, k121, n121⟩, -, X121, ⟨Lc121, hQ121, l121, y121, z121⟩, st121⟩ := Jvm.LawKit.callS X113 hx (y := (⟨"com/example/sluice/sluice/state/SnapshotOutputPutLengthPinLaw", "expected", "(IIIIB)B"⟩ : MethodName)) hown (mvT hZ (hw _ (List.mem_of_getElem? (i := 12) rfl))) (mvT hZ (hw _ (List.mem_of_getElem? (i := 13) rfl))) (mvT hZ (hw _ (List.mem_of_getElem? (i := 8) rfl))) (mvT hZ (hw _ (List.mem_of_getElem? (i := 14) rfl))) (by decide) (backOf (W := 1) (rm3 l Z a0 hw [] (6 : Int32) ap ln (own_cnt ln) fl h60 n0 Z62 hfn) hZ (hw _ (List.mem_of_getElem? (i := 14) rfl)) (hw _ (List.mem_of_getElem? (i := 8) rfl)) (by decide) (by decide)) (g := (mkF m 242 #[.val (.int x0), .val (.int s0), .val (.int a2), .val (.int f0), .val (.int ln), .val (.int ap), .val (.int fl), .val (.ref b1), .val (.int (own_pl 4 ap ap.toNatClampNeg ln [(.int (nar .byte fl)), (.int (nar .byte fl)), (.int (nar .byte fl)), (.int (nar .byte fl)), (.int (nar .byte fl)), (.int (nar .byte fl)), (.int (nar .byte fl)), (.int (nar .byte fl)), (.int (nar .byte fl))]).1), .val (.int (own_cnt ln))] [(.int fl), (.int (own_cnt ln)), (.int ln), (.int ap), (.int (6 : Int32)), (.int (own_ex (6 : Int32) ap ln (own_cnt ln) fl))])) rfl (by rw [hml]; rfl) (argsL := [(.int (6 : Int32)), (.int ap), (.int ln), (.int (own_cnt ln)), (.int fl)]) (rest := [(.int (own_ex (6 : Int32) ap ln (own_cnt ln) fl))]) (lenOf pd_exp rfl) rfl (by show 2 * 0 + _ ≤ _; exact Nat.le_of_eq rfl) (hb hby at_242) (fun _ _ => ⟨rfl, heq113, (by decide : 1 + 0 ≤ _), (by decide : 9 + 0 ≤ _)⟩)
  dsimp only [Pt.U, Pt.locs, Pt.cells, Pt.slots] at X121 l121 y121 z121 st121 hQ121
  subst l121 y121 z121
  obtain ⟨rfl, Nq121, heq121⟩ := hQ121
  have N121 := Fr.app N113 Nq121
  have pre122 : ∀ t, Steps p.tables e below (T121.setTop (mkF m 245 #[.val (.int x0), .val (.int s0), .val (.int a2), .val (.int f0), .val (.int ln), .val (.int ap), .val (.int fl), .val (.ref b1), .val (.int (own_pl 4 ap ap.toNatClampNeg ln [(.int (nar .byte fl)), (.int (nar .byte fl)), (.int (nar .byte fl)), (.int (nar .byte fl)), (.int (nar .byte fl)), (.int (nar .byte fl)), (.int (nar .byte fl)), (.int (nar .byte fl)), (.int (nar .byte fl))]).1), .val (.int (own_cnt ln))] [(.int (own_ex (6 : Int32) ap ln (own_cnt ln) fl)), (.int (own_ex (6 : Int32) ap ln (own_cnt ln) fl))])) t → Steps p.tables e below (s₁.setTop (entryFrame m #[(.int x0), (.int s0), (.int a2), (.int f0)] maxLocals)) t := fun t k => pre119 t (st121 t k)
  have pre123 : ∀ t, Steps p.tables e below (T121.setTop (mkF m 252 #[.val (.int x0), .val (.int s0), .val (.int a2), .val (.int f0), .val (.int ln), .val (.int ap), .val (.int fl), .val (.ref b1), .val (.int (own_pl 4 ap ap.toNatClampNeg ln [(.int (nar .byte fl)), (.int (nar .byte fl)), (.int (nar .byte fl)), (.int (nar .byte fl)), (.int (nar .byte fl)), (.int (nar .byte fl)), (.int (nar .byte fl)), (.int (nar .byte fl)), (.int (nar .byte fl))]).1), .val (.int (own_cnt ln))] [(.int (7 : Int32)), (.ref b1)])) t → Steps p.tables e below (s₁.setTop (entryFrame m #[(.int x0), (.int s0), (.int a2), (.int f0)] maxLocals)) t := by
    intro t k
    refine pre122 t ?_
    refine XS.icmpNo X121.here hx rfl (hb hby at_245) rfl (XT.ii_ne_f rfl) ?_
    show Steps p.tables e below (T121.setTop (mkF m 248 #[.val (.int x0), .val (.int s0), .val (.int a2), .val (.int f0), .val (.int ln), .val (.int ap), .val (.int fl), .val (.ref b1), .val (.int (own_pl 4 ap ap.toNatClampNeg ln [(.int (nar .byte fl)), (.int (nar .byte fl)), (.int (nar .byte fl)), (.int (nar .byte fl)), (.int (nar .byte fl)), (.int (nar .byte fl)), (.int (nar .byte fl)), (.int (nar .byte fl)), (.int (nar .byte fl))]).1), .val (.int (own_cnt ln))] [])) _
    refine XS.aload X121.here hx rfl (hb hby at_248) rfl rfl ?_
    show Steps p.tables e below (T121.setTop (mkF m 250 #[.val (.int x0), .val (.int s0), .val (.int a2), .val (.int f0), .val (.int ln), .val (.int ap), .val (.int fl), .val (.ref b1), .val (.int (own_pl 4 ap ap.toNatClampNeg ln [(.int (nar .byte fl)), (.int (nar .byte fl)), (.int (nar .byte fl)), (.int (nar .byte fl)), (.int (nar .byte fl)), (.int (nar .byte fl)), (.int (nar .byte fl)), (.int (nar .byte fl)), (.int (nar .byte fl))]).1), .val (.int (own_cnt ln))] [(.ref b1)])) _
    refine XS.bipush X121.here hx rfl (hb hby at_250) ?_
    show Steps p.tables e below (T121.setTop (mkF m 252 #[.val (.int x0), .val (.int s0), .val (.int a2), .val (.int f0), .val (.int ln), .val (.int ap), .val (.int fl), .val (.ref b1), .val (.int (own_pl 4 ap ap.toNatClampNeg ln [(.int (nar .byte fl)), (.int (nar .byte fl)), (.int (nar .byte fl)), (.int (nar .byte fl)), (.int (nar .byte fl)), (.int (nar .byte fl)), (.int (nar .byte fl)), (.int (nar .byte fl)), (.int (nar .byte fl))]).1), .val (.int (own_cnt ln))] [(.int (7 : Int32)), (.ref b1)])) _
    exact k
  obtain ⟨cc124, Ar124, q1_124, Sz124, q3_124, Hs124, G124⟩ := id Va60
  have hin124 : ¬ ((7 : Int32) < 0 ∨ cc124.slots.size ≤ ((7 : Int32) : Int32).toNatClampNeg) := inb_of Sz124 ⟨(by decide), (by decide)⟩
  have hat124 : cc124.slots[((7 : Int32) : Int32).toNatClampNeg]? = some (.int (own_ex (7 : Int32) ap ln (own_cnt ln) fl)) := Hs124.at hin124 hz.2.2.2.2.2.2.2.2.1
  have pre127 : ∀ t, Steps p.tables e below (T121.setTop (mkF m 263 #[.val (.int x0), .val (.int s0), .val (.int a2), .val (.int f0), .val (.int ln), .val (.int ap), .val (.int fl), .val (.ref b1), .val (.int (own_pl 4 ap ap.toNatClampNeg ln [(.int (nar .byte fl)), (.int (nar .byte fl)), (.int (nar .byte fl)), (.int (nar .byte fl)), (.int (nar .byte fl)), (.int (nar .byte fl)), (.int (nar .byte fl)), (.int (nar .byte fl)), (.int (nar .byte fl))]).1), .val (.int (own_cnt ln))] [(.int fl), (.int (own_cnt ln)), (.int ln), (.int ap), (.int (7 : Int32)), (.int (own_ex (7 : Int32) ap ln (own_cnt ln) fl))])) t → Steps p.tables e below (s₁.setTop (entryFrame m #[(.int x0), (.int s0), (.int a2), (.int f0)] maxLocals)) t := by
    intro t k
    refine pre123 t ?_
    refine X121.baloadBytes hx (j := (7 : Int32)) (v := (.int (own_ex (7 : Int32) ap ln (own_cnt ln) fl))) (by rw [heq121]; exact Ar124.1) (State.isArrayOf_alike hZ.alike Ar124.2.1) Ar124.2.2 hin124 hat124 (g := (mkF m 252 #[.val (.int x0), .val (.int s0), .val (.int a2), .val (.int f0), .val (.int ln), .val (.int ap), .val (.int fl), .val (.ref b1), .val (.int (own_pl 4 ap ap.toNatClampNeg ln [(.int (nar .byte fl)), (.int (nar .byte fl)), (.int (nar .byte fl)), (.int (nar .byte fl)), (.int (nar .byte fl)), (.int (nar .byte fl)), (.int (nar .byte fl)), (.int (nar .byte fl)), (.int (nar .byte fl))]).1), .val (.int (own_cnt ln))] [(.int (7 : Int32)), (.ref b1)])) rfl rfl (hb hby at_252) _ ?_
    show Steps p.tables e below (T121.setTop (mkF m 253 #[.val (.int x0), .val (.int s0), .val (.int a2), .val (.int f0), .val (.int ln), .val (.int ap), .val (.int fl), .val (.ref b1), .val (.int (own_pl 4 ap ap.toNatClampNeg ln [(.int (nar .byte fl)), (.int (nar .byte fl)), (.int (nar .byte fl)), (.int (nar .byte fl)), (.int (nar .byte fl)), (.int (nar .byte fl)), (.int (nar .byte fl)), (.int (nar .byte fl)), (.int (nar .byte fl))]).1), .val (.int (own_cnt ln))] [(.int (own_ex (7 : Int32) ap ln (own_cnt ln) fl))])) _
    refine XS.bipush X121.here hx rfl (hb hby at_253) ?_
    show Steps p.tables e below (T121.setTop (mkF m 255 #[.val (.int x0), .val (.int s0), .val (.int a2), .val (.int f0), .val (.int ln), .val (.int ap), .val (.int fl), .val (.ref b1), .val (.int (own_pl 4 ap ap.toNatClampNeg ln [(.int (nar .byte fl)), (.int (nar .byte fl)), (.int (nar .byte fl)), (.int (nar .byte fl)), (.int (nar .byte fl)), (.int (nar .byte fl)), (.int (nar .byte fl)), (.int (nar .byte fl)), (.int (nar .byte fl))]).1), .val (.int (own_cnt ln))] [(.int (7 : Int32)), (.int (own_ex (7 : Int32) ap ln (own_cnt ln) fl))])) _
    refine XS.iload X121.here hx rfl (hb hby at_255) rfl ?_
    show Steps p.tables e below (T121.setTop (mkF m 257 #[.val (.int x0), .val (.int s0), .val (.int a2), .val (.int f0), .val (.int ln), .val (.int ap), .val (.int fl), .val (.ref b1), .val (.int (own_pl 4 ap ap.toNatClampNeg ln [(.int (nar .byte fl)), (.int (nar .byte fl)), (.int (nar .byte fl)), (.int (nar .byte fl)), (.int (nar .byte fl)), (.int (nar .byte fl)), (.int (nar .byte fl)), (.int (nar .byte fl)), (.int (nar .byte fl))]).1), .val (.int (own_cnt ln))] [(.int ap), (.int (7 : Int32)), (.int (own_ex (7 : Int32) ap ln (own_cnt ln) fl))])) _
    refine XS.iload X121.here hx rfl (hb hby at_257) rfl ?_
    show Steps p.tables e below (T121.setTop (mkF m 259 #[.val (.int x0), .val (.int s0), .val (.int a2), .val (.int f0), .val (.int ln), .val (.int ap), .val (.int fl), .val (.ref b1), .val (.int (own_pl 4 ap ap.toNatClampNeg ln [(.int (nar .byte fl)), (.int (nar .byte fl)), (.int (nar .byte fl)), (.int (nar .byte fl)), (.int (nar .byte fl)), (.int (nar .byte fl)), (.int (nar .byte fl)), (.int (nar .byte fl)), (.int (nar .byte fl))]).1), .val (.int (own_cnt ln))] [(.int ln), (.int ap), (.int (7 : Int32)), (.int (own_ex (7 : Int32) ap ln (own_cnt ln) fl))])) _
    refine XS.iload X121.here hx rfl (hb hby at_259) rfl ?_
    show Steps p.tables e below (T121.setTop (mkF m 261 #[.val (.int x0), .val (.int s0), .val (.int a2), .val (.int f0), .val (.int ln), .val (.int ap), .val (.int fl), .val (.ref b1), .val (.int (own_pl 4 ap ap.toNatClampNeg ln [(.int (nar .byte fl)), (.int (nar .byte fl)), (.int (nar .byte fl)), (.int (nar .byte fl)), (.int (nar .byte fl)), (.int (nar .byte fl)), (.int (nar .byte fl)), (.int (nar .byte fl)), (.int (nar .byte fl))]).1), .val (.int (own_cnt ln))] [(.int (own_cnt ln)), (.int ln), (.int ap), (.int (7 : Int32)), (.int (own_ex (7 : Int32) ap ln (own_cnt ln) fl))])) _
    refine XS.iload X121.here hx rfl (hb hby at_261) rfl ?_
    show Steps p.tables e below (T121.setTop (mkF m 263 #[.val (.int x0), .val (.int s0), .val (.int a2), .val (.int f0), .val (.int ln), .val (.int ap), .val (.int fl), .val (.ref b1), .val (.int (own_pl 4 ap ap.toNatClampNeg ln [(.int (nar .byte fl)), (.int (nar .byte fl)), (.int (nar .byte fl)), (.int (nar .byte fl)), (.int (nar .byte fl)), (.int (nar .byte fl)), (.int (nar .byte fl)), (.int (nar .byte fl)), (.int (nar .byte fl))]).1), .val (.int (own_cnt ln))] [(.int fl), (.int (own_cnt ln)), (.int ln), (.int ap), (.int (7 : Int32)), (.int (own_ex (7 : Int32) ap ln (own_cnt ln) fl))])) _
    exact k
  obtain ⟨_, _, ⟨T129, L129, k129, n129⟩, -, X129, ⟨Lc129, hQ129, l129, y129, z129⟩, st129⟩ := Jvm.LawKit.callS X121 hx (y := (⟨"com/example/sluice/sluice/state/SnapshotOutputPutLengthPinLaw", "expected", "(IIIIB)B"⟩ : MethodName)) hown (mvT hZ (hw _ (List.mem_of_getElem? (i := 12) rfl))) (mvT hZ (hw _ (List.mem_of_getElem? (i := 13) rfl))) (mvT hZ (hw _ (List.mem_of_getElem? (i := 8) rfl))) (mvT hZ (hw _ (List.mem_of_getElem? (i := 14) rfl))) (by decide) (backOf (W := 1) (rm3 l Z a0 hw [] (7 : Int32) ap ln (own_cnt ln) fl h60 n0 Z62 hfn) hZ (hw _ (List.mem_of_getElem? (i := 14) rfl)) (hw _ (List.mem_of_getElem? (i := 8) rfl)) (by decide) (by decide)) (g := (mkF m 263 #[.val (.int x0), .val (.int s0), .val (.int a2), .val (.int f0), .val (.int ln), .val (.int ap), .val (.int fl), .val (.ref b1), .val (.int (own_pl 4 ap ap.toNatClampNeg ln [(.int (nar .byte fl)), (.int (nar .byte fl)), (.int (nar .byte fl)), (.int (nar .byte fl)), (.int (nar .byte fl)), (.int (nar .byte fl)), (.int (nar .byte fl)), (.int (nar .byte fl)), (.int (nar .byte fl))]).1), .val (.int (own_cnt ln))] [(.int fl), (.int (own_cnt ln)), (.int ln), (.int ap), (.int (7 : Int32)), (.int (own_ex (7 : Int32) ap ln (own_cnt ln) fl))])) rfl (by rw [hml]; rfl) (argsL := [(.int (7 : Int32)), (.int ap), (.int ln), (.int (own_cnt ln)), (.int fl)]) (rest := [(.int (own_ex (7 : Int32) ap ln (own_cnt ln) fl))]) (lenOf pd_exp rfl) rfl (by show 2 * 0 + _ ≤ _; exact Nat.le_of_eq rfl) (hb hby at_263) (fun _ _ => ⟨rfl, heq121, (by decide : 1 + 0 ≤ _), (by decide : 9 + 0 ≤ _)⟩)
  dsimp only [Pt.U, Pt.locs, Pt.cells, Pt.slots] at X129 l129 y129 z129 st129 hQ129
  subst l129 y129 z129
  obtain ⟨rfl, Nq129, heq129⟩ := hQ129
  have N129 := Fr.app N121 Nq129
  have pre130 : ∀ t, Steps p.tables e below (T129.setTop (mkF m 266 #[.val (.int x0), .val (.int s0), .val (.int a2), .val (.int f0), .val (.int ln), .val (.int ap), .val (.int fl), .val (.ref b1), .val (.int (own_pl 4 ap ap.toNatClampNeg ln [(.int (nar .byte fl)), (.int (nar .byte fl)), (.int (nar .byte fl)), (.int (nar .byte fl)), (.int (nar .byte fl)), (.int (nar .byte fl)), (.int (nar .byte fl)), (.int (nar .byte fl)), (.int (nar .byte fl))]).1), .val (.int (own_cnt ln))] [(.int (own_ex (7 : Int32) ap ln (own_cnt ln) fl)), (.int (own_ex (7 : Int32) ap ln (own_cnt ln) fl))])) t → Steps p.tables e below (s₁.setTop (entryFrame m #[(.int x0), (.int s0), (.int a2), (.int f0)] maxLocals)) t := fun t k => pre127 t (st129 t k)
  have pre131 : ∀ t, Steps p.tables e below (T129.setTop (mkF m 273 #[.val (.int x0), .val (.int s0), .val (.int a2), .val (.int f0), .val (.int ln), .val (.int ap), .val (.int fl), .val (.ref b1), .val (.int (own_pl 4 ap ap.toNatClampNeg ln [(.int (nar .byte fl)), (.int (nar .byte fl)), (.int (nar .byte fl)), (.int (nar .byte fl)), (.int (nar .byte fl)), (.int (nar .byte fl)), (.int (nar .byte fl)), (.int (nar .byte fl)), (.int (nar .byte fl))]).1), .val (.int (own_cnt ln))] [(.int (8 : Int32)), (.ref b1)])) t → Steps p.tables e below (s₁.setTop (entryFrame m #[(.int x0), (.int s0), (.int a2), (.int f0)] maxLocals)) t := by
    intro t k
    refine pre130 t ?_
    refine XS.icmpNo X129.here hx rfl (hb hby at_266) rfl (XT.ii_ne_f rfl) ?_
    show Steps p.tables e below (T129.setTop (mkF m 269 #[.val (.int x0), .val (.int s0), .val (.int a2), .val (.int f0), .val (.int ln), .val (.int ap), .val (.int fl), .val (.ref b1), .val (.int (own_pl 4 ap ap.toNatClampNeg ln [(.int (nar .byte fl)), (.int (nar .byte fl)), (.int (nar .byte fl)), (.int (nar .byte fl)), (.int (nar .byte fl)), (.int (nar .byte fl)), (.int (nar .byte fl)), (.int (nar .byte fl)), (.int (nar .byte fl))]).1), .val (.int (own_cnt ln))] [])) _
    refine XS.aload X129.here hx rfl (hb hby at_269) rfl rfl ?_
    show Steps p.tables e below (T129.setTop (mkF m 271 #[.val (.int x0), .val (.int s0), .val (.int a2), .val (.int f0), .val (.int ln), .val (.int ap), .val (.int fl), .val (.ref b1), .val (.int (own_pl 4 ap ap.toNatClampNeg ln [(.int (nar .byte fl)), (.int (nar .byte fl)), (.int (nar .byte fl)), (.int (nar .byte fl)), (.int (nar .byte fl)), (.int (nar .byte fl)), (.int (nar .byte fl)), (.int (nar .byte fl)), (.int (nar .byte fl))]).1), .val (.int (own_cnt ln))] [(.ref b1)])) _
    refine XS.bipush X129.here hx rfl (hb hby at_271) ?_
    show Steps p.tables e below (T129.setTop (mkF m 273 #[.val (.int x0), .val (.int s0), .val (.int a2), .val (.int f0), .val (.int ln), .val (.int ap), .val (.int fl), .val (.ref b1), .val (.int (own_pl 4 ap ap.toNatClampNeg ln [(.int (nar .byte fl)), (.int (nar .byte fl)), (.int (nar .byte fl)), (.int (nar .byte fl)), (.int (nar .byte fl)), (.int (nar .byte fl)), (.int (nar .byte fl)), (.int (nar .byte fl)), (.int (nar .byte fl))]).1), .val (.int (own_cnt ln))] [(.int (8 : Int32)), (.ref b1)])) _
    exact k
  obtain ⟨cc132, Ar132, q1_132, Sz132, q3_132, Hs132, G132⟩ := id Va60
  have hin132 : ¬ ((8 : Int32) < 0 ∨ cc132.slots.size ≤ ((8 : Int32) : Int32).toNatClampNeg) := inb_of Sz132 ⟨(by decide), (by decide)⟩
  have hat132 : cc132.slots[((8 : Int32) : Int32).toNatClampNeg]? = some (.int (own_ex (8 : Int32) ap ln (own_cnt ln) fl)) := Hs132.at hin132 hz.2.2.2.2.2.2.2.2.2
  have pre135 : ∀ t, Steps p.tables e below (T129.setTop (mkF m 284 #[.val (.int x0), .val (.int s0), .val (.int a2), .val (.int f0), .val (.int ln), .val (.int ap), .val (.int fl), .val (.ref b1), .val (.int (own_pl 4 ap ap.toNatClampNeg ln [(.int (nar .byte fl)), (.int (nar .byte fl)), (.int (nar .byte fl)), (.int (nar .byte fl)), (.int (nar .byte fl)), (.int (nar .byte fl)), (.int (nar .byte fl)), (.int (nar .byte fl)), (.int (nar .byte fl))]).1), .val (.int (own_cnt ln))] [(.int fl), (.int (own_cnt ln)), (.int ln), (.int ap), (.int (8 : Int32)), (.int (own_ex (8 : Int32) ap ln (own_cnt ln) fl))])) t → Steps p.tables e below (s₁.setTop (entryFrame m #[(.int x0), (.int s0), (.int a2), (.int f0)] maxLocals)) t := by
    intro t k
    refine pre131 t ?_
    refine X129.baloadBytes hx (j := (8 : Int32)) (v := (.int (own_ex (8 : Int32) ap ln (own_cnt ln) fl))) (by rw [heq129]; exact Ar132.1) (State.isArrayOf_alike hZ.alike Ar132.2.1) Ar132.2.2 hin132 hat132 (g := (mkF m 273 #[.val (.int x0), .val (.int s0), .val (.int a2), .val (.int f0), .val (.int ln), .val (.int ap), .val (.int fl), .val (.ref b1), .val (.int (own_pl 4 ap ap.toNatClampNeg ln [(.int (nar .byte fl)), (.int (nar .byte fl)), (.int (nar .byte fl)), (.int (nar .byte fl)), (.int (nar .byte fl)), (.int (nar .byte fl)), (.int (nar .byte fl)), (.int (nar .byte fl)), (.int (nar .byte fl))]).1), .val (.int (own_cnt ln))] [(.int (8 : Int32)), (.ref b1)])) rfl rfl (hb hby at_273) _ ?_
    show Steps p.tables e below (T129.setTop (mkF m 274 #[.val (.int x0), .val (.int s0), .val (.int a2), .val (.int f0), .val (.int ln), .val (.int ap), .val (.int fl), .val (.ref b1), .val (.int (own_pl 4 ap ap.toNatClampNeg ln [(.int (nar .byte fl)), (.int (nar .byte fl)), (.int (nar .byte fl)), (.int (nar .byte fl)), (.int (nar .byte fl)), (.int (nar .byte fl)), (.int (nar .byte fl)), (.int (nar .byte fl)), (.int (nar .byte fl))]).1), .val (.int (own_cnt ln))] [(.int (own_ex (8 : Int32) ap ln (own_cnt ln) fl))])) _
    refine XS.bipush X129.here hx rfl (hb hby at_274) ?_
    show Steps p.tables e below (T129.setTop (mkF m 276 #[.val (.int x0), .val (.int s0), .val (.int a2), .val (.int f0), .val (.int ln), .val (.int ap), .val (.int fl), .val (.ref b1), .val (.int (own_pl 4 ap ap.toNatClampNeg ln [(.int (nar .byte fl)), (.int (nar .byte fl)), (.int (nar .byte fl)), (.int (nar .byte fl)), (.int (nar .byte fl)), (.int (nar .byte fl)), (.int (nar .byte fl)), (.int (nar .byte fl)), (.int (nar .byte fl))]).1), .val (.int (own_cnt ln))] [(.int (8 : Int32)), (.int (own_ex (8 : Int32) ap ln (own_cnt ln) fl))])) _
    refine XS.iload X129.here hx rfl (hb hby at_276) rfl ?_
    show Steps p.tables e below (T129.setTop (mkF m 278 #[.val (.int x0), .val (.int s0), .val (.int a2), .val (.int f0), .val (.int ln), .val (.int ap), .val (.int fl), .val (.ref b1), .val (.int (own_pl 4 ap ap.toNatClampNeg ln [(.int (nar .byte fl)), (.int (nar .byte fl)), (.int (nar .byte fl)), (.int (nar .byte fl)), (.int (nar .byte fl)), (.int (nar .byte fl)), (.int (nar .byte fl)), (.int (nar .byte fl)), (.int (nar .byte fl))]).1), .val (.int (own_cnt ln))] [(.int ap), (.int (8 : Int32)), (.int (own_ex (8 : Int32) ap ln (own_cnt ln) fl))])) _
    refine XS.iload X129.here hx rfl (hb hby at_278) rfl ?_
    show Steps p.tables e below (T129.setTop (mkF m 280 #[.val (.int x0), .val (.int s0), .val (.int a2), .val (.int f0), .val (.int ln), .val (.int ap), .val (.int fl), .val (.ref b1), .val (.int (own_pl 4 ap ap.toNatClampNeg ln [(.int (nar .byte fl)), (.int (nar .byte fl)), (.int (nar .byte fl)), (.int (nar .byte fl)), (.int (nar .byte fl)), (.int (nar .byte fl)), (.int (nar .byte fl)), (.int (nar .byte fl)), (.int (nar .byte fl))]).1), .val (.int (own_cnt ln))] [(.int ln), (.int ap), (.int (8 : Int32)), (.int (own_ex (8 : Int32) ap ln (own_cnt ln) fl))])) _
    refine XS.iload X129.here hx rfl (hb hby at_280) rfl ?_
    show Steps p.tables e below (T129.setTop (mkF m 282 #[.val (.int x0), .val (.int s0), .val (.int a2), .val (.int f0), .val (.int ln), .val (.int ap), .val (.int fl), .val (.ref b1), .val (.int (own_pl 4 ap ap.toNatClampNeg ln [(.int (nar .byte fl)), (.int (nar .byte fl)), (.int (nar .byte fl)), (.int (nar .byte fl)), (.int (nar .byte fl)), (.int (nar .byte fl)), (.int (nar .byte fl)), (.int (nar .byte fl)), (.int (nar .byte fl))]).1), .val (.int (own_cnt ln))] [(.int (own_cnt ln)), (.int ln), (.int ap), (.int (8 : Int32)), (.int (own_ex (8 : Int32) ap ln (own_cnt ln) fl))])) _
    refine XS.iload X129.here hx rfl (hb hby at_282) rfl ?_
    show Steps p.tables e below (T129.setTop (mkF m 284 #[.val (.int x0), .val (.int s0), .val (.int a2), .val (.int f0), .val (.int ln), .val (.int ap), .val (.int fl), .val (.ref b1), .val (.int (own_pl 4 ap ap.toNatClampNeg ln [(.int (nar .byte fl)), (.int (nar .byte fl)), (.int (nar .byte fl)), (.int (nar .byte fl)), (.int (nar .byte fl)), (.int (nar .byte fl)), (.int (nar .byte fl)), (.int (nar .byte fl)), (.int (nar .byte fl))]).1), .val (.int (own_cnt ln))] [(.int fl), (.int (own_cnt ln)), (.int ln), (.int ap), (.int (8 : Int32)), (.int (own_ex (8 : Int32) ap ln (own_cnt ln) fl))])) _
    exact k
  obtain ⟨_, _, ⟨T137, L137, k137, n137⟩, -, X137, ⟨Lc137, hQ137, l137, y137, z137⟩, st137⟩ := Jvm.LawKit.callS X129 hx (y := (⟨"com/example/sluice/sluice/state/SnapshotOutputPutLengthPinLaw", "expected", "(IIIIB)B"⟩ : MethodName)) hown (mvT hZ (hw _ (List.mem_of_getElem? (i := 12) rfl))) (mvT hZ (hw _ (List.mem_of_getElem? (i := 13) rfl))) (mvT hZ (hw _ (List.mem_of_getElem? (i := 8) rfl))) (mvT hZ (hw _ (List.mem_of_getElem? (i := 14) rfl))) (by decide) (backOf (W := 1) (rm3 l Z a0 hw [] (8 : Int32) ap ln (own_cnt ln) fl h60 n0 Z62 hfn) hZ (hw _ (List.mem_of_getElem? (i := 14) rfl)) (hw _ (List.mem_of_getElem? (i := 8) rfl)) (by decide) (by decide)) (g := (mkF m 284 #[.val (.int x0), .val (.int s0), .val (.int a2), .val (.int f0), .val (.int ln), .val (.int ap), .val (.int fl), .val (.ref b1), .val (.int (own_pl 4 ap ap.toNatClampNeg ln [(.int (nar .byte fl)), (.int (nar .byte fl)), (.int (nar .byte fl)), (.int (nar .byte fl)), (.int (nar .byte fl)), (.int (nar .byte fl)), (.int (nar .byte fl)), (.int (nar .byte fl)), (.int (nar .byte fl))]).1), .val (.int (own_cnt ln))] [(.int fl), (.int (own_cnt ln)), (.int ln), (.int ap), (.int (8 : Int32)), (.int (own_ex (8 : Int32) ap ln (own_cnt ln) fl))])) rfl (by rw [hml]; rfl) (argsL := [(.int (8 : Int32)), (.int ap), (.int ln), (.int (own_cnt ln)), (.int fl)]) (rest := [(.int (own_ex (8 : Int32) ap ln (own_cnt ln) fl))]) (lenOf pd_exp rfl) rfl (by show 2 * 0 + _ ≤ _; exact Nat.le_of_eq rfl) (hb hby at_284) (fun _ _ => ⟨rfl, heq129, (by decide : 1 + 0 ≤ _), (by decide : 9 + 0 ≤ _)⟩)
  dsimp only [Pt.U, Pt.locs, Pt.cells, Pt.slots] at X137 l137 y137 z137 st137 hQ137
  subst l137 y137 z137
  obtain ⟨rfl, Nq137, heq137⟩ := hQ137
  have N137 := Fr.app N129 Nq137
  have pre138 : ∀ t, Steps p.tables e below (T137.setTop (mkF m 287 #[.val (.int x0), .val (.int s0), .val (.int a2), .val (.int f0), .val (.int ln), .val (.int ap), .val (.int fl), .val (.ref b1), .val (.int (own_pl 4 ap ap.toNatClampNeg ln [(.int (nar .byte fl)), (.int (nar .byte fl)), (.int (nar .byte fl)), (.int (nar .byte fl)), (.int (nar .byte fl)), (.int (nar .byte fl)), (.int (nar .byte fl)), (.int (nar .byte fl)), (.int (nar .byte fl))]).1), .val (.int (own_cnt ln))] [(.int (own_ex (8 : Int32) ap ln (own_cnt ln) fl)), (.int (own_ex (8 : Int32) ap ln (own_cnt ln) fl))])) t → Steps p.tables e below (s₁.setTop (entryFrame m #[(.int x0), (.int s0), (.int a2), (.int f0)] maxLocals)) t := fun t k => pre135 t (st137 t k)
  have pre139 : ∀ t, Steps p.tables e below (T137.setTop (mkF m 295 #[.val (.int x0), .val (.int s0), .val (.int a2), .val (.int f0), .val (.int ln), .val (.int ap), .val (.int fl), .val (.ref b1), .val (.int (own_pl 4 ap ap.toNatClampNeg ln [(.int (nar .byte fl)), (.int (nar .byte fl)), (.int (nar .byte fl)), (.int (nar .byte fl)), (.int (nar .byte fl)), (.int (nar .byte fl)), (.int (nar .byte fl)), (.int (nar .byte fl)), (.int (nar .byte fl))]).1), .val (.int (own_cnt ln))] [(.int (1 : Int32))])) t → Steps p.tables e below (s₁.setTop (entryFrame m #[(.int x0), (.int s0), (.int a2), (.int f0)] maxLocals)) t := by
    intro t k
    refine pre138 t ?_
    refine XS.icmpNo X137.here hx rfl (hb hby at_287) rfl (XT.ii_ne_f rfl) ?_
    show Steps p.tables e below (T137.setTop (mkF m 290 #[.val (.int x0), .val (.int s0), .val (.int a2), .val (.int f0), .val (.int ln), .val (.int ap), .val (.int fl), .val (.ref b1), .val (.int (own_pl 4 ap ap.toNatClampNeg ln [(.int (nar .byte fl)), (.int (nar .byte fl)), (.int (nar .byte fl)), (.int (nar .byte fl)), (.int (nar .byte fl)), (.int (nar .byte fl)), (.int (nar .byte fl)), (.int (nar .byte fl)), (.int (nar .byte fl))]).1), .val (.int (own_cnt ln))] [])) _
    refine XS.iconst X137.here hx rfl (hb hby at_290) ?_
    show Steps p.tables e below (T137.setTop (mkF m 291 #[.val (.int x0), .val (.int s0), .val (.int a2), .val (.int f0), .val (.int ln), .val (.int ap), .val (.int fl), .val (.ref b1), .val (.int (own_pl 4 ap ap.toNatClampNeg ln [(.int (nar .byte fl)), (.int (nar .byte fl)), (.int (nar .byte fl)), (.int (nar .byte fl)), (.int (nar .byte fl)), (.int (nar .byte fl)), (.int (nar .byte fl)), (.int (nar .byte fl)), (.int (nar .byte fl))]).1), .val (.int (own_cnt ln))] [(.int (1 : Int32))])) _
    refine XS.goto X137.here hx rfl (pc0 := 291) (pc' := 295) rfl (hb hby at_291) (by decide) (by decide) ?_
    show Steps p.tables e below (T137.setTop (mkF m 295 #[.val (.int x0), .val (.int s0), .val (.int a2), .val (.int f0), .val (.int ln), .val (.int ap), .val (.int fl), .val (.ref b1), .val (.int (own_pl 4 ap ap.toNatClampNeg ln [(.int (nar .byte fl)), (.int (nar .byte fl)), (.int (nar .byte fl)), (.int (nar .byte fl)), (.int (nar .byte fl)), (.int (nar .byte fl)), (.int (nar .byte fl)), (.int (nar .byte fl)), (.int (nar .byte fl))]).1), .val (.int (own_cnt ln))] [(.int (1 : Int32))])) _
    exact k
  obtain ⟨fs, hr, hrun, hended, hW, hsame⟩ := X137.leave (v := some (.int (1 : Int32))) (fun h => by rw [Bd.returns] at h; cases h)
  refine ⟨_, _, pre139 _ ?_, hrun, hended, _, _, rfl, ?_, ⟨_, rfl⟩, hW, hsame.mono (by decide) (by decide)⟩
  · exact retOut X137 hx Bd.returns rfl (Or.inl ⟨rfl, by simp, _, rfl⟩) (hb hby at_295) hr
  · show Qlaw Z x0 s0 a2 f0 h0 n0 _ T137.heap _
    rw [heq137]
    exact ⟨rfl, N137⟩
set_option maxRecDepth 65536 in
set_option maxHeartbeats 40000000 in
theorem comes_1 {Post : Tables → Env → Array Value → State → Outcome → State → Prop} (hpost : ∀ tb e args s v u, (limb_1_1.after args s (.returned v) u = true ∧ limb_1_2.after args s (.returned v) u = true ∧ True) → FrameEnd s (.returned v) u (Jvm.fieldLocs frame_1_writes args s ++ Jvm.arrayLocs frame_1_arrays args s ++ Jvm.staticLocs frame_1_statics s) 16 128 → Post tb e args s (.returned v) u) :
    ArmFor flags0 classFile x code maxLocals ret World_1 tables_1 room_1 Calls_1 rest_1 Pre_1 Post := by
  intro l hfl _ _ p e ha hc hk s m args below hf hA hF happ hP
  obtain ⟨hcalls, hrest, hpre⟩ := hP
  obtain ⟨-, -, -, hnamed, -, -, -, hat⟩ := (Spec.applies_iff hf).mp happ
  obtain ⟨hg, hn⟩ := and_e (Cond.before_iff.mp (show (Jvm.Cond.and given_1 narrow_1).before args s = true from hpre))
  obtain ⟨gc, g0⟩ := and_e hg
  obtain ⟨w0, w1, w2, w3, rfl⟩ : ∃ w0 w1 w2 w3 : Value, args = #[w0, w1, w2, w3] := by
    have hs : args.size = 4 := by simpa [Cond.value, given_1] using gc
    obtain ⟨L⟩ := args
    match L, hs with
    | [w0, w1, w2, w3], _ => exact ⟨w0, w1, w2, w3, rfl⟩
  have hw := fun d (hd : d ∈ tables_1) => atoms_spec (ws := Jvm.Cond.code x code maxLocals ret :: tables_1) hat d (List.mem_cons_of_mem _ hd)
  have hfit : Fit s := fun {y c} hc i hi => by
    obtain ⟨ha, rfl⟩ := Array.getElem?_eq_some_iff.mp hc
    have q := List.all_eq_true.mp ((Array.all_eq_true_iff_forall_mem.mp hF) _ (Array.getElem_mem ha)) i (List.mem_range.mpr hi)
    simpa [Array.getElem?_eq_getElem hi] using q
  obtain ⟨ga0, gb0⟩ := and_e g0
  obtain ⟨i0, ei0⟩ := is_v ga0
  obtain rfl : w0 = (.int i0) := Option.some.inj ei0
  obtain ⟨ga1, gb1⟩ := and_e gb0
  obtain ⟨i1, ei1⟩ := is_v ga1
  obtain rfl : w1 = (.int i1) := Option.some.inj ei1
  obtain ⟨ga2, gb2⟩ := and_e gb1
  obtain ⟨i2, ei2⟩ := is_v ga2
  obtain rfl : w2 = (.int i2) := Option.some.inj ei2
  obtain ⟨i3, ei3⟩ := is_v gb2
  obtain rfl : w3 = (.int i3) := Option.some.inj ei3
  obtain ⟨n, o, h1, h2, h3, _, L, rfl, ⟨rfl, N⟩, hq⟩ := rmlaw l s _ hw tables_1 i0 i1 i2 i3 s.heap s.heap.size (Nat.le_refl _)  p e ha hc hk s m _ below hf ((Spec.applies_iff_loose hf).mp happ).1 ⟨rfl, State.Warmed39.refl s, rfl⟩ trivial
  refine ⟨n, _, h1, h2, h3, hpost _ _ _ _ _ _ ⟨Cond.after_iff.mpr rfl, Cond.after_iff.mpr (eq_i res_at (Term.int_eval (1)) rfl), trivial⟩ ⟨hq.1, hq.2.1, (hq.2.2.sift fun y hy => Or.inr (N y hy)).mono (by decide) (by decide)⟩⟩
theorem main_1_1 : Claimed_1_1 := comes_1 fun _ _ _ _ _ _ h hF => ⟨h.1, hF⟩
theorem main_1_2 : Claimed_1_2 := comes_1 fun _ _ _ _ _ _ h hF => ⟨h.2.1, hF⟩
end Jvm.Pilot.@@N@@
namespace Jvm.Pilot.@@N@@
open Jvm Jvm.ClassFile Sem Op Lib Jvm.Free Jvm.Stand Jvm.Pilot.@@N@@.Jvm.D
/-! MADE BY PROGRAM (witnessworld.py) out of the Statement's table words and the real class files: 13 classes; the members and pool entries that the words name. The judged class is class 1, her method 1. -/
namespace start1
open Jvm.ClassFile
def u (s : String) : CpInfo := .utf8 (stringToUtf16 s)
/-- a pool by its gaps: so many unusable entries, then the entry; so many at the end -/
def gap : Nat → List CpInfo → List CpInfo
  | 0, r => r
  | n + 1, r => .unusable :: gap n r
def poolList (es : List (Nat × CpInfo)) (last : Nat) : List CpInfo := es.foldr (fun e r => gap e.1 (e.2 :: r)) (gap last [])
def pool (es : List (Nat × CpInfo)) (last : Nat) : Array CpInfo := ⟨poolList es last⟩
def fileOf (pool : Array CpInfo) (this : Nat) (attrs : Array Attribute := #[]) (ms : Array MethodInfo := #[]) (fl : Nat := 33) (sup : Nat := 0) (ifs : Array Nat := #[]) (fds : Array FieldInfo := #[]) : ClassFile where
  minorVersion := 0
  majorVersion := 65
  constantPool := pool
  accessFlags := fl
  thisClass := this
  superClass := sup
  interfaces := ifs
  fields := fds
  methods := ms
  attributes := attrs
def plain (name : String) (sup : Option ClassId) : Class where
  name := name
  kind := .ordinary
  loader := none
  accessFlags := 33
  super := sup
  interfaces := #[]
  cf := none
  fields := #[]
  methods := #[]
  instanceTypes := #[]
  staticTypes := #[]
  resolved := #[]
  callSites := []
  init := .initialized
  statics := none
  mirror := none

def pool0 : Array CpInfo := pool [(5, u "<init>"), (0, u "()V"), (1, .class_ 10), (1, u "java/lang/Object")] 113

def k0m0 : Method := { name := "<init>", desc := "()V", sig := { parameters := [], returnType := none }, accessFlags := 1, code := none }
/-- java/lang/Object -/
def k0 : Class := { plain "java/lang/Object" none with
  accessFlags := 33
  interfaces := #[]
  cf := some (fileOf pool0 8 #[] #[{ accessFlags := 1, nameIndex := 5, descriptorIndex := 6, attributes := #[] }] 33 0 #[] #[])
  fields := #[]
  methods := #[k0m0]
  instanceTypes := #[]
  staticTypes := #[]
  resolved := Array.replicate 124 none
  statics := none }

def pool1 : Array CpInfo := pool [(2, .class_ 4), (1, u "java/lang/Object"), (0, u "<init>"), (0, u "()V"), (0, .integer 2147483647), (0, .methodref 9 10), (0, .class_ 11), (0, .nameAndType 12 13), (0, u "com/example/sluice/sluice/state/SnapshotOutput"), (0, u "putLength"), (0, u "([BII)I"), (0, .methodref 15 16), (0, .class_ 17), (0, .nameAndType 18 19), (0, u "com/example/sluice/sluice/state/SnapshotOutputPutLengthPinLaw"), (0, u "count"), (0, u "(I)I"), (0, .methodref 15 21), (0, .nameAndType 22 23), (0, u "expected"), (0, u "(IIIIB)B"), (0, .integer 2097152), (0, .integer 268435456), (2, u "law"), (0, u "(IIII)Z")] 5

def k1m0 : Method := { name := "<init>", desc := "()V", sig := { parameters := [], returnType := none }, accessFlags := 1, code := none }
def k1c1 : Code := { maxStack := 6, maxLocals := 10, code := code, exceptionTable := #[], attributes := #[] }
def k1m1 : Method := { name := "law", desc := "(IIII)Z", sig := { parameters := [.int, .int, .int, .int], returnType := some .boolean }, accessFlags := 9, code := some k1c1 }
def k1c2 : Code := { maxStack := 2, maxLocals := 2, code := method_3_code, exceptionTable := #[], attributes := #[] }
def k1m2 : Method := { name := "count", desc := "(I)I", sig := { parameters := [.int], returnType := some .int }, accessFlags := 10, code := some k1c2 }
def k1c3 : Code := { maxStack := 3, maxLocals := 7, code := method_4_code, exceptionTable := #[], attributes := #[] }
def k1m3 : Method := { name := "expected", desc := "(IIIIB)B", sig := { parameters := [.int, .int, .int, .int, .byte], returnType := some .byte }, accessFlags := 10, code := some k1c3 }
/-- com/example/sluice/sluice/state/SnapshotOutputPutLengthPinLaw -/
def k1 : Class := { plain "com/example/sluice/sluice/state/SnapshotOutputPutLengthPinLaw" (some 0) with
  accessFlags := 49
  interfaces := #[]
  cf := some (fileOf pool1 15 #[] #[{ accessFlags := 1, nameIndex := 5, descriptorIndex := 6, attributes := #[] }, { accessFlags := 9, nameIndex := 28, descriptorIndex := 29, attributes := #[] }, { accessFlags := 10, nameIndex := 18, descriptorIndex := 19, attributes := #[] }, { accessFlags := 10, nameIndex := 22, descriptorIndex := 23, attributes := #[] }] 49 2 #[] #[])
  fields := #[]
  methods := #[k1m0, k1m1, k1m2, k1m3]
  instanceTypes := #[]
  staticTypes := #[]
  resolved := Array.replicate 35 none
  statics := none }

def pool2 : Array CpInfo := pool [(1, .class_ 2), (0, u "java/lang/AutoCloseable"), (0, .class_ 4), (0, u "java/lang/Object")] 7

/-- java/lang/AutoCloseable -/
def k2 : Class := { plain "java/lang/AutoCloseable" (some 0) with
  accessFlags := 1537
  interfaces := #[]
  cf := some (fileOf pool2 1 #[] #[] 1537 3 #[] #[])
  fields := #[]
  methods := #[]
  instanceTypes := #[]
  staticTypes := #[]
  resolved := Array.replicate 12 none
  statics := none }

def pool3 : Array CpInfo := pool [(1, .class_ 2), (0, u "java/io/Closeable"), (0, .class_ 4), (0, u "java/lang/Object"), (0, .class_ 6), (0, u "java/lang/AutoCloseable")] 7

/-- java/io/Closeable -/
def k3 : Class := { plain "java/io/Closeable" (some 0) with
  accessFlags := 1537
  interfaces := #[2]
  cf := some (fileOf pool3 1 #[] #[] 1537 3 #[5] #[])
  fields := #[]
  methods := #[]
  instanceTypes := #[]
  staticTypes := #[]
  resolved := Array.replicate 14 none
  statics := none }

def pool4 : Array CpInfo := pool [(1, .class_ 2), (0, u "java/io/Flushable"), (0, .class_ 4), (0, u "java/lang/Object")] 7

/-- java/io/Flushable -/
def k4 : Class := { plain "java/io/Flushable" (some 0) with
  accessFlags := 1537
  interfaces := #[]
  cf := some (fileOf pool4 1 #[] #[] 1537 3 #[] #[])
  fields := #[]
  methods := #[]
  instanceTypes := #[]
  staticTypes := #[]
  resolved := Array.replicate 12 none
  statics := none }

def pool5 : Array CpInfo := pool [(2, .class_ 4), (1, u "java/lang/Object"), (0, u "<init>"), (0, u "()V"), (0, .class_ 8), (0, u "java/io/OutputStream$1"), (2, .class_ 13), (1, u "java/io/OutputStream"), (11, .class_ 26), (0, u "java/io/Closeable"), (0, .class_ 28), (0, u "java/io/Flushable")] 24

def k5m0 : Method := { name := "<init>", desc := "()V", sig := { parameters := [], returnType := none }, accessFlags := 1, code := none }
/-- java/io/OutputStream -/
def k5 : Class := { plain "java/io/OutputStream" (some 0) with
  accessFlags := 1057
  interfaces := #[3, 4]
  cf := some (fileOf pool5 11 #[.nestMembers #[7]] #[{ accessFlags := 1, nameIndex := 5, descriptorIndex := 6, attributes := #[] }] 1057 2 #[25, 27] #[])
  fields := #[]
  methods := #[k5m0]
  instanceTypes := #[]
  staticTypes := #[]
  resolved := Array.replicate 53 none
  statics := none }

def pool6 : Array CpInfo := pool [(2, .class_ 4), (1, u "java/io/OutputStream"), (2, .class_ 8), (0, u "com/example/sluice/sluice/state/SnapshotOutput"), (2, u "buffer"), (0, u "[B"), (2, u "out"), (0, u "Ljava/io/OutputStream;"), (6, u "size"), (0, u "I"), (72, u "putLength"), (0, u "([BII)I"), (50, u "FIRST_BUFFER_BYTES"), (2, u "MOST_BUFFER_BYTES"), (0, u "MAX_LENGTH_BYTES"), (1, u "MAX_WHOLE_NUMBER_BYTES")] 23

def k6c0 : Code := { maxStack := 4, maxLocals := 5, code := prog_193_method_19_code, exceptionTable := #[], attributes := #[] }
def k6m0 : Method := { name := "putLength", desc := "([BII)I", sig := { parameters := [(.array .byte), .int, .int], returnType := some .int }, accessFlags := 9, code := some k6c0 }
/-- com/example/sluice/sluice/state/SnapshotOutput -/
def k6 : Class := { plain "com/example/sluice/sluice/state/SnapshotOutput" (some 5) with
  accessFlags := 49
  interfaces := #[]
  cf := some (fileOf pool6 7 #[] #[{ accessFlags := 9, nameIndex := 97, descriptorIndex := 98, attributes := #[] }] 49 2 #[] #[{ accessFlags := 26, nameIndex := 149, descriptorIndex := 24, attributes := #[] }, { accessFlags := 26, nameIndex := 152, descriptorIndex := 24, attributes := #[] }, { accessFlags := 25, nameIndex := 153, descriptorIndex := 24, attributes := #[] }, { accessFlags := 26, nameIndex := 155, descriptorIndex := 24, attributes := #[] }, { accessFlags := 18, nameIndex := 15, descriptorIndex := 16, attributes := #[] }, { accessFlags := 2, nameIndex := 11, descriptorIndex := 12, attributes := #[] }, { accessFlags := 2, nameIndex := 23, descriptorIndex := 24, attributes := #[] }])
  fields := #[{ name := "FIRST_BUFFER_BYTES", type := .int, accessFlags := 26, slot := 0, constantValue := 0 }, { name := "MOST_BUFFER_BYTES", type := .int, accessFlags := 26, slot := 1, constantValue := 0 }, { name := "MAX_LENGTH_BYTES", type := .int, accessFlags := 25, slot := 2, constantValue := 0 }, { name := "MAX_WHOLE_NUMBER_BYTES", type := .int, accessFlags := 26, slot := 3, constantValue := 0 }, { name := "out", type := (.object "java/io/OutputStream"), accessFlags := 18, slot := 0, constantValue := 0 }, { name := "buffer", type := (.array .byte), accessFlags := 2, slot := 1, constantValue := 0 }, { name := "size", type := .int, accessFlags := 2, slot := 2, constantValue := 0 }]
  methods := #[k6m0]
  instanceTypes := #[(.object "java/io/OutputStream"), (.array .byte), .int]
  staticTypes := #[.int, .int, .int, .int]
  resolved := Array.replicate 179 none
  statics := none }

def pool7 : Array CpInfo := pool [(1, u "java/lang/Cloneable"), (0, .class_ 1), (0, u "java/lang/Object"), (0, .class_ 3)] 3

/-- java/lang/Cloneable -/
def k7 : Class := { plain "java/lang/Cloneable" (some 0) with
  accessFlags := 1537
  interfaces := #[]
  cf := some (fileOf pool7 2 #[] #[] 1537 4 #[] #[])
  fields := #[]
  methods := #[]
  instanceTypes := #[]
  staticTypes := #[]
  resolved := Array.replicate 8 none
  statics := none }

def pool8 : Array CpInfo := pool [(1, u "java/io/Serializable"), (0, .class_ 1), (0, u "java/lang/Object"), (0, .class_ 3)] 3

/-- java/io/Serializable -/
def k8 : Class := { plain "java/io/Serializable" (some 0) with
  accessFlags := 1537
  interfaces := #[]
  cf := some (fileOf pool8 2 #[] #[] 1537 4 #[] #[])
  fields := #[]
  methods := #[]
  instanceTypes := #[]
  staticTypes := #[]
  resolved := Array.replicate 8 none
  statics := none }

/-- the primitive byte -/
def k9 : Class := { plain "byte" none with kind := .primitive 'B', accessFlags := 0x411 }
/-- [B -/
def k10 : Class := { plain "[B" (some 0) with kind := .array 9 .byte, interfaces := #[7, 8], accessFlags := 1041 }

/-- the primitive int -/
def k11 : Class := { plain "int" none with kind := .primitive 'I', accessFlags := 0x411 }
/-- [I -/
def k12 : Class := { plain "[I" (some 0) with kind := .array 11 .int, interfaces := #[7, 8], accessFlags := 1041 }

def heap : Heap := #[]
def classes : Array Class := #[k0, k1, k2, k3, k4, k5, k6, k7, k8, k9, k10, k11, k12]
def interned : List (Array UInt16 × Addr) := []
def slotsUsed : Nat := 0
def theMethod : MethodId := ⟨1, 1⟩
def args0 : Array Value := #[.int 300, .int 0, .int 1, .int 7]
def aboutOver (below : List Frame) : State where
  vm := { classes := classes, interned := interned.toArray }
  heap := heap
  slotsUsed := slotsUsed
  threads := #[{ frames := .invoking theMethod args0 :: below }]
def below0 : List Frame := [.native { method := ⟨0, 0⟩, args := #[] }]
def about1 : State := aboutOver below0
def p0 : Program := .bare "" "" ""
def e0 : Env := launch0.env 0 0 0
theorem w_frames : about1.frames = Frame.invoking theMethod args0 :: below0 := rfl
set_option maxRecDepth 65536 in
theorem w_args : argsFit about1.vm theMethod args0 = true := by decide +kernel
set_option maxRecDepth 65536 in
theorem w_heap : heapFits about1 = true := by decide +kernel
set_option maxRecDepth 65536 in
theorem w_runnable : about1.curStatus? = some .runnable := by decide +kernel
set_option maxRecDepth 65536 in
theorem w_alone : about1.alone = true := by decide +kernel
set_option maxRecDepth 65536 in
theorem w_named : about1.methodNamed? x = some theMethod := by decide +kernel
set_option maxRecDepth 65536 in
theorem w_hears : about1.hears theMethod below0 = true := by decide +kernel
set_option maxRecDepth 65536 in
theorem w_ripe : about1.ripe theMethod args0 below0 = true := by decide +kernel
theorem w_running : about1.status = .running := rfl
set_option maxRecDepth 65536 in
theorem w_room : about1.hasRoom e0.platform room_1 = true :=
  launch0.hasRoom_least _ room_1 (by decide +kernel) (by decide +kernel) (by decide +kernel) (by decide +kernel) (by decide +kernel) (by decide +kernel)
theorem allAtoms_all (ts : List Jvm.Cond) (a : Array Jvm.Value) (st : Jvm.State) : (allAtoms ts).before a st = ts.all (fun c => c.before a st) := by
  induction ts with
  | nil => rfl
  | cons c t ih =>
    show (Jvm.Cond.and c (allAtoms t)).before a st = _
    rw [Jvm.Cond.before_and, ih, List.all_cons]
def words1 : List Jvm.Cond := Jvm.Cond.code x code maxLocals ret :: tables_1
/-- a 'code' word, met by the world's own term for the bytes: nothing is compared byte by byte -/
theorem code_word {y : MethodName} {bytes : ByteArray} {mx : Nat} {rt : Option FieldType} {a : Array Value} {s : State} {m : MethodId} {meth : Method} {c : Code} (h1 : s.methodNamed? y = some m) (h2 : s.vm.method? m = some meth) (h3 : meth.code = some c) (h4 : c.code = bytes)
    (h5 : (c.maxLocals == mx && c.exceptionTable.isEmpty && decide (c.maxStack ≤ mostOperands) && decide (meth.sig.returnType = rt) && !meth.locks && decide (parseMethodDescriptor y.desc = some meth.sig)) = true) : (Jvm.Cond.code y bytes mx rt).before a s = true := by
  simp only [Bool.and_eq_true, beq_iff_eq, Bool.not_eq_true', decide_eq_true_eq] at h5
  obtain ⟨⟨⟨⟨⟨g1, g2⟩, g3⟩, g4⟩, g5⟩, g6⟩ := h5
  simp [Cond.before, Cond.holds, Cond.value, h1, h2, h3, h4, g1, g2, g3, g4, g5, g6]
def isCode : Jvm.Cond → Bool
  | .code _ _ _ _ => true
  | _ => false
theorem all_split {L : List Jvm.Cond} {P : Jvm.Cond → Bool} (h1 : L.all (fun c => isCode c || P c) = true) (h2 : ∀ c ∈ L.filter isCode, P c = true) : L.all P = true := by
  refine List.all_eq_true.mpr fun c hc => ?_
  have h := List.all_eq_true.mp h1 c hc
  rcases Bool.eq_false_or_eq_true (isCode c) with hi | hi
  · exact h2 c (List.mem_filter.mpr ⟨hc, hi⟩)
  · simpa [hi] using h
set_option maxRecDepth 65536 in
theorem w_c0 : (Jvm.Cond.code x code maxLocals ret).before args0 about1 = true := code_word (m := ⟨1, 1⟩) (meth := k1m1) (c := k1c1) (by decide +kernel) rfl rfl rfl (by decide +kernel)
set_option maxRecDepth 65536 in
theorem w_c1 : (Jvm.Cond.code ({ cls := "com/example/sluice/sluice/state/SnapshotOutput", name := "putLength", desc := "([BII)I" } : Jvm.MethodName) prog_193_method_19_code (5 : Nat) (Option.some Jvm.ClassFile.FieldType.int)).before args0 about1 = true := code_word (m := ⟨6, 0⟩) (meth := k6m0) (c := k6c0) (by decide +kernel) rfl rfl rfl (by decide +kernel)
set_option maxRecDepth 65536 in
theorem w_c2 : (Jvm.Cond.code ({ cls := "com/example/sluice/sluice/state/SnapshotOutputPutLengthPinLaw", name := "count", desc := "(I)I" } : Jvm.MethodName) method_3_code (2 : Nat) (Option.some Jvm.ClassFile.FieldType.int)).before args0 about1 = true := code_word (m := ⟨1, 2⟩) (meth := k1m2) (c := k1c2) (by decide +kernel) rfl rfl rfl (by decide +kernel)
set_option maxRecDepth 65536 in
theorem w_c3 : (Jvm.Cond.code ({ cls := "com/example/sluice/sluice/state/SnapshotOutputPutLengthPinLaw", name := "expected", desc := "(IIIIB)B" } : Jvm.MethodName) method_4_code (7 : Nat) (Option.some Jvm.ClassFile.FieldType.byte)).before args0 about1 = true := code_word (m := ⟨1, 3⟩) (meth := k1m3) (c := k1c3) (by decide +kernel) rfl rfl rfl (by decide +kernel)
def codes1 : List Jvm.Cond := [Jvm.Cond.code x code maxLocals ret, Jvm.Cond.code ({ cls := "com/example/sluice/sluice/state/SnapshotOutput", name := "putLength", desc := "([BII)I" } : Jvm.MethodName) prog_193_method_19_code (5 : Nat) (Option.some Jvm.ClassFile.FieldType.int), Jvm.Cond.code ({ cls := "com/example/sluice/sluice/state/SnapshotOutputPutLengthPinLaw", name := "count", desc := "(I)I" } : Jvm.MethodName) method_3_code (2 : Nat) (Option.some Jvm.ClassFile.FieldType.int), Jvm.Cond.code ({ cls := "com/example/sluice/sluice/state/SnapshotOutputPutLengthPinLaw", name := "expected", desc := "(IIIIB)B" } : Jvm.MethodName) method_4_code (7 : Nat) (Option.some Jvm.ClassFile.FieldType.byte)]
set_option maxRecDepth 65536 in
theorem codes_eq : words1.filter isCode = codes1 := rfl
theorem w_codes : ∀ c ∈ words1.filter isCode, c.before args0 about1 = true := by
  rw [codes_eq]
  intro c hc
  simp only [codes1, List.mem_cons, List.not_mem_nil, or_false] at hc
  rcases hc with rfl | rfl | rfl | rfl
  · exact w_c0
  · exact w_c1
  · exact w_c2
  · exact w_c3
set_option maxRecDepth 65536 in
theorem w_t1 : words1.all (fun c => isCode c || c.before args0 about1) = true := by decide +kernel
theorem w_tables : (allAtoms (Jvm.Cond.code x code maxLocals ret :: tables_1)).before args0 about1 = true := by
  rw [allAtoms_all]
  show words1.all (fun c => c.before args0 about1) = true
  refine all_split ?_ w_codes
  rw [w_t1]
set_option maxRecDepth 65536 in
theorem w_case : (Jvm.Cond.and given_1 narrow_1).before args0 about1 = true := by decide +kernel
theorem w_applies : (headSpec (Jvm.Cond.code x code maxLocals ret :: tables_1) room_1).applies x e0.platform about1 = true :=
  (Spec.applies_iff w_frames).mpr ⟨w_running, w_runnable, w_alone, w_named, w_hears, w_ripe, w_room, w_tables⟩
theorem atStart : AtStart classFile x code maxLocals ret World_1 tables_1 room_1 Calls_1 rest_1 Pre_1 launch0 p0 e0 about1 theMethod args0 below0 :=
  ⟨lists_1, trivial, launch0.admits_env _ _ _, launch0.least_env, fairChoices_fair.cas, fairChoices_fair.clock, w_frames, w_args, w_heap, w_applies, trivial, trivial, w_case⟩
end start1
theorem witness_1 : WitnessClaimed_1 := ⟨start1.p0, start1.e0, start1.about1, start1.theMethod, start1.args0, start1.below0, start1.atStart⟩
end Jvm.Pilot.@@N@@
