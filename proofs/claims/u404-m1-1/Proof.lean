import JvmDerived
import JvmDerived.Pilot.@@N@@Statement
import JvmDerived.Pilot.@@N@@Code
set_option linter.unusedVariables false
set_option linter.unusedSimpArgs false
namespace Jvm.Pilot.@@N@@
open Jvm Jvm.ClassFile Sem Op Lib Jvm.Free Jvm.Stand Jvm.LawKit Jvm.RoadKit Bundle Jvm.Pilot.@@N@@.Jvm.D
def own_bi (P : Prop) [Decidable P] : Int32 := if P then 1 else 0
theorem own_bi_t {P : Prop} [Decidable P] (h : P) : own_bi P = 1 := if_pos h
theorem own_bi_f {P : Prop} [Decidable P] (h : ¬ P) : own_bi P = 0 := if_neg h
theorem own_bi_01 (P : Prop) [Decidable P] : own_bi P = 0 ∨ own_bi P = 1 := by by_cases h : P <;> simp [own_bi, h]
theorem own_bi_eq {P Q : Prop} [Decidable P] [Decidable Q] (h : P ↔ Q) : own_bi P = own_bi Q := by by_cases q : P <;> simp [own_bi, q, ← h]
theorem own_bi_iff (P : Prop) [Decidable P] : own_bi P = 1 ↔ P := by by_cases q : P <;> simp [own_bi, q]
theorem own_bi_ne (P : Prop) [Decidable P] : own_bi P = 0 ↔ ¬ P := by by_cases q : P <;> simp [own_bi, q]
theorem own_ofNat {n : Nat} (h : n < 2147483648) : (Int32.ofNat n).toInt = (n : Int) := len_toInt h
theorem own_narZ {z : Int32} (h : z = 0 ∨ z = 1) : narrow .boolean (.int z) = .int z := by rcases h with rfl | rfl <;> rfl
def own_lenF : Nat → Int32 → Int64 → Int32
  | 0, n, _ => n
  | f + 1, n, r => if r = 0 then n else own_lenF f (n + (1 : Int32)) (XT.ushrL r (7 : Int32))
def own_len (v : Int64) : Int32 := own_lenF 9 (1 : Int32) (XT.ushrL v (7 : Int32))
theorem own_lenF_z {f : Nat} {n : Int32} {r : Int64} (h : r = 0) : own_lenF (f + 1) n r = n := if_pos h
theorem own_lenF_s {f : Nat} {n : Int32} {r : Int64} (h : ¬ r = 0) : own_lenF (f + 1) n r = own_lenF f (n + (1 : Int32)) (XT.ushrL r (7 : Int32)) := if_neg h
def own_exp (v : Int64) : Int32 := (((((((((1 : Int32) + own_bi (¬ v < (128 : Int64))) + own_bi (¬ v < (16384 : Int64))) + own_bi (¬ v < (2097152 : Int64))) + own_bi (¬ v < (268435456 : Int64))) + own_bi (¬ v < (34359738368 : Int64))) + own_bi (¬ v < (4398046511104 : Int64))) + own_bi (¬ v < (562949953421312 : Int64))) + own_bi (¬ v < (72057594037927936 : Int64)))
def own_N (r : Int64) : Nat := r.toBitVec.toNat
theorem own_N7 (r : Int64) : own_N (XT.ushrL r (7 : Int32)) = own_N r / 128 := by
  show (r.toBitVec >>> (7 : BitVec 64)).toNat = r.toBitVec.toNat / 128
  rw [BitVec.ushiftRight_eq', BitVec.toNat_ushiftRight, Nat.shiftRight_eq_div_pow]
  rfl
theorem own_N0 (r : Int64) : r = 0 ↔ own_N r = 0 := by
  rw [← Int64.toBitVec_inj]
  constructor
  · intro h; show r.toBitVec.toNat = 0; rw [h]; rfl
  · intro h; exact BitVec.eq_of_toNat_eq h
theorem own_Nint {r : Int64} (h : own_N r < 2 ^ 63) : r.toInt = (own_N r : Int) := by
  show r.toBitVec.toInt = _
  exact BitVec.toInt_eq_toNat_of_lt (by unfold own_N at h; omega)
theorem own_Nlt {r k : Int64} (h : own_N r < 2 ^ 63) (hk : own_N k < 2 ^ 63) : r < k ↔ own_N r < own_N k := by
  rw [Int64.lt_iff_toInt_lt, own_Nint h, own_Nint hk]; omega
theorem own_count {v : Int64} (h : own_N v < 2 ^ 63) : own_len v = own_exp v := by
  have e0 := own_N7 v
  have e1 := own_N7 (XT.ushrL v (7 : Int32))
  have e2 := own_N7 (XT.ushrL (XT.ushrL v (7 : Int32)) (7 : Int32))
  have e3 := own_N7 (XT.ushrL (XT.ushrL (XT.ushrL v (7 : Int32)) (7 : Int32)) (7 : Int32))
  have e4 := own_N7 (XT.ushrL (XT.ushrL (XT.ushrL (XT.ushrL v (7 : Int32)) (7 : Int32)) (7 : Int32)) (7 : Int32))
  have e5 := own_N7 (XT.ushrL (XT.ushrL (XT.ushrL (XT.ushrL (XT.ushrL v (7 : Int32)) (7 : Int32)) (7 : Int32)) (7 : Int32)) (7 : Int32))
  have e6 := own_N7 (XT.ushrL (XT.ushrL (XT.ushrL (XT.ushrL (XT.ushrL (XT.ushrL v (7 : Int32)) (7 : Int32)) (7 : Int32)) (7 : Int32)) (7 : Int32)) (7 : Int32))
  have e7 := own_N7 (XT.ushrL (XT.ushrL (XT.ushrL (XT.ushrL (XT.ushrL (XT.ushrL (XT.ushrL v (7 : Int32)) (7 : Int32)) (7 : Int32)) (7 : Int32)) (7 : Int32)) (7 : Int32)) (7 : Int32))
  have e8 := own_N7 (XT.ushrL (XT.ushrL (XT.ushrL (XT.ushrL (XT.ushrL (XT.ushrL (XT.ushrL (XT.ushrL v (7 : Int32)) (7 : Int32)) (7 : Int32)) (7 : Int32)) (7 : Int32)) (7 : Int32)) (7 : Int32)) (7 : Int32))
  have t1 : v < (128 : Int64) ↔ own_N v < 128 := own_Nlt h (by decide)
  have t2 : v < (16384 : Int64) ↔ own_N v < 16384 := own_Nlt h (by decide)
  have t3 : v < (2097152 : Int64) ↔ own_N v < 2097152 := own_Nlt h (by decide)
  have t4 : v < (268435456 : Int64) ↔ own_N v < 268435456 := own_Nlt h (by decide)
  have t5 : v < (34359738368 : Int64) ↔ own_N v < 34359738368 := own_Nlt h (by decide)
  have t6 : v < (4398046511104 : Int64) ↔ own_N v < 4398046511104 := own_Nlt h (by decide)
  have t7 : v < (562949953421312 : Int64) ↔ own_N v < 562949953421312 := own_Nlt h (by decide)
  have t8 : v < (72057594037927936 : Int64) ↔ own_N v < 72057594037927936 := own_Nlt h (by decide)
  unfold own_len own_exp
  rw [own_bi_eq (not_congr t1)]
  rw [own_bi_eq (not_congr t2)]
  rw [own_bi_eq (not_congr t3)]
  rw [own_bi_eq (not_congr t4)]
  rw [own_bi_eq (not_congr t5)]
  rw [own_bi_eq (not_congr t6)]
  rw [own_bi_eq (not_congr t7)]
  rw [own_bi_eq (not_congr t8)]
  generalize own_N v = n at *
  by_cases c0 : n < 128
  · have zz : (XT.ushrL v (7 : Int32)) = 0 := by rw [own_N0]; omega
    rw [own_lenF_z zz]
    rw [own_bi_f (show ¬ ¬ n < 128 by omega)]
    rw [own_bi_f (show ¬ ¬ n < 16384 by omega)]
    rw [own_bi_f (show ¬ ¬ n < 2097152 by omega)]
    rw [own_bi_f (show ¬ ¬ n < 268435456 by omega)]
    rw [own_bi_f (show ¬ ¬ n < 34359738368 by omega)]
    rw [own_bi_f (show ¬ ¬ n < 4398046511104 by omega)]
    rw [own_bi_f (show ¬ ¬ n < 562949953421312 by omega)]
    rw [own_bi_f (show ¬ ¬ n < 72057594037927936 by omega)]
    all_goals decide
  · have nz0 : ¬ (XT.ushrL v (7 : Int32)) = 0 := by rw [own_N0]; omega
    by_cases c1 : n < 16384
    · have zz : (XT.ushrL (XT.ushrL v (7 : Int32)) (7 : Int32)) = 0 := by rw [own_N0]; omega
      rw [own_lenF_s nz0, own_lenF_z zz]
      rw [own_bi_t (show ¬ n < 128 by omega)]
      rw [own_bi_f (show ¬ ¬ n < 16384 by omega)]
      rw [own_bi_f (show ¬ ¬ n < 2097152 by omega)]
      rw [own_bi_f (show ¬ ¬ n < 268435456 by omega)]
      rw [own_bi_f (show ¬ ¬ n < 34359738368 by omega)]
      rw [own_bi_f (show ¬ ¬ n < 4398046511104 by omega)]
      rw [own_bi_f (show ¬ ¬ n < 562949953421312 by omega)]
      rw [own_bi_f (show ¬ ¬ n < 72057594037927936 by omega)]
      all_goals decide
    · have nz1 : ¬ (XT.ushrL (XT.ushrL v (7 : Int32)) (7 : Int32)) = 0 := by rw [own_N0]; omega
      by_cases c2 : n < 2097152
      · have zz : (XT.ushrL (XT.ushrL (XT.ushrL v (7 : Int32)) (7 : Int32)) (7 : Int32)) = 0 := by rw [own_N0]; omega
        rw [own_lenF_s nz0, own_lenF_s nz1, own_lenF_z zz]
        rw [own_bi_t (show ¬ n < 128 by omega)]
        rw [own_bi_t (show ¬ n < 16384 by omega)]
        rw [own_bi_f (show ¬ ¬ n < 2097152 by omega)]
        rw [own_bi_f (show ¬ ¬ n < 268435456 by omega)]
        rw [own_bi_f (show ¬ ¬ n < 34359738368 by omega)]
        rw [own_bi_f (show ¬ ¬ n < 4398046511104 by omega)]
        rw [own_bi_f (show ¬ ¬ n < 562949953421312 by omega)]
        rw [own_bi_f (show ¬ ¬ n < 72057594037927936 by omega)]
        all_goals decide
      · have nz2 : ¬ (XT.ushrL (XT.ushrL (XT.ushrL v (7 : Int32)) (7 : Int32)) (7 : Int32)) = 0 := by rw [own_N0]; omega
        by_cases c3 : n < 268435456
        · have zz : (XT.ushrL (XT.ushrL (XT.ushrL (XT.ushrL v (7 : Int32)) (7 : Int32)) (7 : Int32)) (7 : Int32)) = 0 := by rw [own_N0]; omega
          rw [own_lenF_s nz0, own_lenF_s nz1, own_lenF_s nz2, own_lenF_z zz]
          rw [own_bi_t (show ¬ n < 128 by omega)]
          rw [own_bi_t (show ¬ n < 16384 by omega)]
          rw [own_bi_t (show ¬ n < 2097152 by omega)]
          rw [own_bi_f (show ¬ ¬ n < 268435456 by omega)]
          rw [own_bi_f (show ¬ ¬ n < 34359738368 by omega)]
          rw [own_bi_f (show ¬ ¬ n < 4398046511104 by omega)]
          rw [own_bi_f (show ¬ ¬ n < 562949953421312 by omega)]
          rw [own_bi_f (show ¬ ¬ n < 72057594037927936 by omega)]
          all_goals decide
        · have nz3 : ¬ (XT.ushrL (XT.ushrL (XT.ushrL (XT.ushrL v (7 : Int32)) (7 : Int32)) (7 : Int32)) (7 : Int32)) = 0 := by rw [own_N0]; omega
          by_cases c4 : n < 34359738368
          · have zz : (XT.ushrL (XT.ushrL (XT.ushrL (XT.ushrL (XT.ushrL v (7 : Int32)) (7 : Int32)) (7 : Int32)) (7 : Int32)) (7 : Int32)) = 0 := by rw [own_N0]; omega
            rw [own_lenF_s nz0, own_lenF_s nz1, own_lenF_s nz2, own_lenF_s nz3, own_lenF_z zz]
            rw [own_bi_t (show ¬ n < 128 by omega)]
            rw [own_bi_t (show ¬ n < 16384 by omega)]
            rw [own_bi_t (show ¬ n < 2097152 by omega)]
            rw [own_bi_t (show ¬ n < 268435456 by omega)]
            rw [own_bi_f (show ¬ ¬ n < 34359738368 by omega)]
            rw [own_bi_f (show ¬ ¬ n < 4398046511104 by omega)]
            rw [own_bi_f (show ¬ ¬ n < 562949953421312 by omega)]
            rw [own_bi_f (show ¬ ¬ n < 72057594037927936 by omega)]
            all_goals decide
          · have nz4 : ¬ (XT.ushrL (XT.ushrL (XT.ushrL (XT.ushrL (XT.ushrL v (7 : Int32)) (7 : Int32)) (7 : Int32)) (7 : Int32)) (7 : Int32)) = 0 := by rw [own_N0]; omega
            by_cases c5 : n < 4398046511104
            · have zz : (XT.ushrL (XT.ushrL (XT.ushrL (XT.ushrL (XT.ushrL (XT.ushrL v (7 : Int32)) (7 : Int32)) (7 : Int32)) (7 : Int32)) (7 : Int32)) (7 : Int32)) = 0 := by rw [own_N0]; omega
              rw [own_lenF_s nz0, own_lenF_s nz1, own_lenF_s nz2, own_lenF_s nz3, own_lenF_s nz4, own_lenF_z zz]
              rw [own_bi_t (show ¬ n < 128 by omega)]
              rw [own_bi_t (show ¬ n < 16384 by omega)]
              rw [own_bi_t (show ¬ n < 2097152 by omega)]
              rw [own_bi_t (show ¬ n < 268435456 by omega)]
              rw [own_bi_t (show ¬ n < 34359738368 by omega)]
              rw [own_bi_f (show ¬ ¬ n < 4398046511104 by omega)]
              rw [own_bi_f (show ¬ ¬ n < 562949953421312 by omega)]
              rw [own_bi_f (show ¬ ¬ n < 72057594037927936 by omega)]
              all_goals decide
            · have nz5 : ¬ (XT.ushrL (XT.ushrL (XT.ushrL (XT.ushrL (XT.ushrL (XT.ushrL v (7 : Int32)) (7 : Int32)) (7 : Int32)) (7 : Int32)) (7 : Int32)) (7 : Int32)) = 0 := by rw [own_N0]; omega
              by_cases c6 : n < 562949953421312
              · have zz : (XT.ushrL (XT.ushrL (XT.ushrL (XT.ushrL (XT.ushrL (XT.ushrL (XT.ushrL v (7 : Int32)) (7 : Int32)) (7 : Int32)) (7 : Int32)) (7 : Int32)) (7 : Int32)) (7 : Int32)) = 0 := by rw [own_N0]; omega
                rw [own_lenF_s nz0, own_lenF_s nz1, own_lenF_s nz2, own_lenF_s nz3, own_lenF_s nz4, own_lenF_s nz5, own_lenF_z zz]
                rw [own_bi_t (show ¬ n < 128 by omega)]
                rw [own_bi_t (show ¬ n < 16384 by omega)]
                rw [own_bi_t (show ¬ n < 2097152 by omega)]
                rw [own_bi_t (show ¬ n < 268435456 by omega)]
                rw [own_bi_t (show ¬ n < 34359738368 by omega)]
                rw [own_bi_t (show ¬ n < 4398046511104 by omega)]
                rw [own_bi_f (show ¬ ¬ n < 562949953421312 by omega)]
                rw [own_bi_f (show ¬ ¬ n < 72057594037927936 by omega)]
                all_goals decide
              · have nz6 : ¬ (XT.ushrL (XT.ushrL (XT.ushrL (XT.ushrL (XT.ushrL (XT.ushrL (XT.ushrL v (7 : Int32)) (7 : Int32)) (7 : Int32)) (7 : Int32)) (7 : Int32)) (7 : Int32)) (7 : Int32)) = 0 := by rw [own_N0]; omega
                by_cases c7 : n < 72057594037927936
                · have zz : (XT.ushrL (XT.ushrL (XT.ushrL (XT.ushrL (XT.ushrL (XT.ushrL (XT.ushrL (XT.ushrL v (7 : Int32)) (7 : Int32)) (7 : Int32)) (7 : Int32)) (7 : Int32)) (7 : Int32)) (7 : Int32)) (7 : Int32)) = 0 := by rw [own_N0]; omega
                  rw [own_lenF_s nz0, own_lenF_s nz1, own_lenF_s nz2, own_lenF_s nz3, own_lenF_s nz4, own_lenF_s nz5, own_lenF_s nz6, own_lenF_z zz]
                  rw [own_bi_t (show ¬ n < 128 by omega)]
                  rw [own_bi_t (show ¬ n < 16384 by omega)]
                  rw [own_bi_t (show ¬ n < 2097152 by omega)]
                  rw [own_bi_t (show ¬ n < 268435456 by omega)]
                  rw [own_bi_t (show ¬ n < 34359738368 by omega)]
                  rw [own_bi_t (show ¬ n < 4398046511104 by omega)]
                  rw [own_bi_t (show ¬ n < 562949953421312 by omega)]
                  rw [own_bi_f (show ¬ ¬ n < 72057594037927936 by omega)]
                  all_goals decide
                · have nz7 : ¬ (XT.ushrL (XT.ushrL (XT.ushrL (XT.ushrL (XT.ushrL (XT.ushrL (XT.ushrL (XT.ushrL v (7 : Int32)) (7 : Int32)) (7 : Int32)) (7 : Int32)) (7 : Int32)) (7 : Int32)) (7 : Int32)) (7 : Int32)) = 0 := by rw [own_N0]; omega
                  have zz : (XT.ushrL (XT.ushrL (XT.ushrL (XT.ushrL (XT.ushrL (XT.ushrL (XT.ushrL (XT.ushrL (XT.ushrL v (7 : Int32)) (7 : Int32)) (7 : Int32)) (7 : Int32)) (7 : Int32)) (7 : Int32)) (7 : Int32)) (7 : Int32)) (7 : Int32)) = 0 := by rw [own_N0]; omega
                  rw [own_lenF_s nz0, own_lenF_s nz1, own_lenF_s nz2, own_lenF_s nz3, own_lenF_s nz4, own_lenF_s nz5, own_lenF_s nz6, own_lenF_s nz7, own_lenF_z zz]
                  rw [own_bi_t (show ¬ n < 128 by omega)]
                  rw [own_bi_t (show ¬ n < 16384 by omega)]
                  rw [own_bi_t (show ¬ n < 2097152 by omega)]
                  rw [own_bi_t (show ¬ n < 268435456 by omega)]
                  rw [own_bi_t (show ¬ n < 34359738368 by omega)]
                  rw [own_bi_t (show ¬ n < 4398046511104 by omega)]
                  rw [own_bi_t (show ¬ n < 562949953421312 by omega)]
                  rw [own_bi_t (show ¬ n < 72057594037927936 by omega)]
                  all_goals decide
theorem own_vlt (x : Int64) (k : Int32) : own_N (XT.ushrL (x &&& (9223372036854775807 : Int64)) k) < 2 ^ 63 := by
  have h : own_N (x &&& (9223372036854775807 : Int64)) < 2 ^ 63 := by
    show (x.toBitVec &&& (9223372036854775807 : BitVec 64)).toNat < 2 ^ 63
    rw [BitVec.toNat_and]
    exact Nat.lt_of_le_of_lt Nat.and_le_right (by decide)
  generalize (x &&& (9223372036854775807 : Int64)) = y at *
  show (y.toBitVec >>> ((k.toInt64.toUInt64 &&& Int64.toUInt64 63).toBitVec % 64#64)).toNat < 2 ^ 63
  rw [BitVec.ushiftRight_eq', BitVec.toNat_ushiftRight]
  exact Nat.lt_of_le_of_lt (Nat.shiftRight_le _ _) h
theorem own_fin : ∀ n : Fin 9, own_len ((1 : Int64) <<< (((7 : Int32) * Int32.ofNat n.1).toInt64 &&& 63)) = Int32.ofNat n.1 + 1 ∧ own_len (((1 : Int64) <<< (((7 : Int32) * Int32.ofNat n.1).toInt64 &&& 63)) - 1) = (if (1 : Int32) < Int32.ofNat n.1 then Int32.ofNat n.1 else (1 : Int32)) := by decide +kernel
theorem own_k {t k : Int32} (hk : k = (t &&& (2147483647 : Int32)) % (9 : Int32)) : own_len ((1 : Int64) <<< (((7 : Int32) * k).toInt64 &&& 63)) = k + 1 ∧ own_len (((1 : Int64) <<< (((7 : Int32) * k).toInt64 &&& 63)) - 1) = (if (1 : Int32) < k then k else (1 : Int32)) := by
  have h1 := c_mask t 2147483647 31 (by decide) (by decide)
  have h2 := (c_irem (t &&& (2147483647 : Int32)) 9 9 rfl).1 (by omega)
  rw [← hk] at h2
  have e : k = Int32.ofNat k.toInt.toNat := by
    apply Int32.toInt_inj.mp
    refine Eq.trans ?_ (own_ofNat ?_).symm <;> omega
  have := own_fin ⟨k.toInt.toNat, by omega⟩
  rwa [← e] at this
theorem own_finb : ∀ n : Fin 9, own_N ((1 : Int64) <<< (((7 : Int32) * Int32.ofNat n.1).toInt64 &&& 63)) < 2 ^ 63 ∧ own_N (((1 : Int64) <<< (((7 : Int32) * Int32.ofNat n.1).toInt64 &&& 63)) - 1) < 2 ^ 63 := by decide +kernel
theorem own_kb {t k : Int32} (hk : k = (t &&& (2147483647 : Int32)) % (9 : Int32)) : own_N ((1 : Int64) <<< (((7 : Int32) * k).toInt64 &&& 63)) < 2 ^ 63 ∧ own_N (((1 : Int64) <<< (((7 : Int32) * k).toInt64 &&& 63)) - 1) < 2 ^ 63 := by
  have h1 := c_mask t 2147483647 31 (by decide) (by decide)
  have h2 := (c_irem (t &&& (2147483647 : Int32)) 9 9 rfl).1 (by omega)
  rw [← hk] at h2
  have e : k = Int32.ofNat k.toInt.toNat := by
    apply Int32.toInt_inj.mp
    refine Eq.trans ?_ (own_ofNat ?_).symm <;> omega
  have := own_finb ⟨k.toInt.toNat, by omega⟩
  rwa [← e] at this
theorem pn_3 : plainName "com/example/byteweave/byteweave/keyed/VsuiLengthPinLaw" = true := by first | (simp [plainName, overriddenIn]; done) | decide +kernel
theorem d3_0 : decode method_2_code 0 = .ok (.lload_n 0, 1) := by decide +kernel
theorem d3_1 : decode method_2_code 1 = .ok (.lload_n 2, 1) := by decide +kernel
theorem d3_2 : decode method_2_code 2 = .ok (.lcmp, 1) := by decide +kernel
theorem d3_3 : decode method_2_code 3 = .ok (.ifCond .lt 7, 3) := by decide +kernel
theorem d3_6 : decode method_2_code 6 = .ok (.iconst 1, 1) := by decide +kernel
theorem d3_7 : decode method_2_code 7 = .ok (.goto 4, 3) := by decide +kernel
theorem d3_10 : decode method_2_code 10 = .ok (.iconst 0, 1) := by decide +kernel
theorem d3_11 : decode method_2_code 11 = .ok (.ireturn, 1) := by decide +kernel
theorem ef_3 (m : MethodId) (vv : Int64) (tt : Int64) : entryFrame m #[(.long vv), (.long tt)] 4 = mkF m 0 #[.val (.long vv), .second, .val (.long tt), .second] [] := by first | (simp [entryFrame, mkF, argsToLocals, Value.category]; done) | rfl
def Q3 (Z : State) (vv : Int64) (tt : Int64) (h0 : Heap) (n0 : Nat) (v : Option Value) (h : Heap) (L : List Loc) : Prop := v = some (.int (own_bi (¬ vv < tt))) ∧ Fr n0 L ∧ h = h0
set_option maxRecDepth 65536 in
set_option maxHeartbeats 40000000 in
theorem rm3 (l : Launch) (Z : State) (a0 : Array Value) (hw : ∀ d ∈ tables_1, d.before a0 Z = true) (ws : List Jvm.Cond) (vv : Int64) (tt : Int64) (h0 : Heap) (n0 : Nat) (Z0 : n0 ≤ h0.size) :
    MetFree l (⟨"com/example/byteweave/byteweave/keyed/VsuiLengthPinLaw", "reach", "(JJ)I"⟩ : MethodName) (head1 (Jvm.Cond.code (⟨"com/example/byteweave/byteweave/keyed/VsuiLengthPinLaw", "reach", "(JJ)I"⟩ : MethodName) method_2_code 4 (some .int) :: ws) ({ frames := 0, cells := 0, slots := 0, locals := 0 } : Room)) (fun a U => a = #[(.long vv), (.long tt)] ∧ Z.Warmed39 U.vm ∧ U.heap = h0) (fun _ _ _ _ _ => True) (fun _ U o U' => ∃ v L, o = .returned v ∧ Q3 Z vv tt h0 n0 v U'.heap L ∧ FrameEnd U o U' L ({ frames := 0, cells := 0, slots := 0, locals := 0 } : Room).cells ({ frames := 0, cells := 0, slots := 0, locals := 0 } : Room).slots) := by
  refine MetFree.of_bodySF (plainFor_of_name pn_3) hisR ?_
  intro p e s m args below meth c s₁ Bd hml0 hP hK
  obtain ⟨rfl, hZ, hh⟩ := hP
  have hx := Bd.exec
  have hby := Bd.bytes
  have hml : c.maxLocals = 4 := hml0
  have hown : s.vm.findClass "com/example/byteweave/byteweave/keyed/VsuiLengthPinLaw" = some m.cls := findClass_of_methodNamed Bd.named
  have hnm := (name_of_methodNamed Bd.named Bd.method).1
  have X0 : Stand p l e ({ frames := 0, cells := 0, slots := 0, locals := 0 } : Room) s m #[(.long vv), (.long tt)] below meth c s₁ [] 0 0 := Stand.of_body Bd
  have e0 : s₁.heap = h0 := by rw [← hh, Bd.state]; rfl
  have N0 := Fr.nil n0
  have pre0 : ∀ t, Steps p.tables e below (s₁.setTop (mkF m 0 #[.val (.long vv), .second, .val (.long tt), .second] [])) t → Steps p.tables e below (s₁.setTop (entryFrame m #[(.long vv), (.long tt)] 4)) t := fun t k => castTop (ef_3 m vv tt) k
  have mrg1 : ∃ (b : Int32) (T1 : State) (Lo1 : List Loc), Stand p l e ({ frames := 0, cells := 0, slots := 0, locals := 0 } : Room) s m #[(.long vv), (.long tt)] below meth c T1 Lo1 0 0 ∧ Fr n0 Lo1 ∧ T1.heap = h0 ∧ (b = own_bi (¬ vv < tt)) ∧ ∀ t, Steps p.tables e below (T1.setTop (mkF m 11 #[.val (.long vv), .second, .val (.long tt), .second] [(.int b)])) t → Steps p.tables e below (s₁.setTop (entryFrame m #[(.long vv), (.long tt)] 4)) t := by
    have pre2 : ∀ t, Steps p.tables e below (s₁.setTop (mkF m 3 #[.val (.long vv), .second, .val (.long tt), .second] [(.int (XT.cmpL vv tt))])) t → Steps p.tables e below (s₁.setTop (entryFrame m #[(.long vv), (.long tt)] 4)) t := by
      intro t k
      refine pre0 t ?_
      refine XT.lloadN X0.here hx rfl (hb hby d3_0) rfl ?_
      show Steps p.tables e below (s₁.setTop (mkF m 1 #[.val (.long vv), .second, .val (.long tt), .second] [(.long vv)])) _
      refine XT.lloadN X0.here hx rfl (hb hby d3_1) rfl ?_
      show Steps p.tables e below (s₁.setTop (mkF m 2 #[.val (.long vv), .second, .val (.long tt), .second] [(.long tt), (.long vv)])) _
      refine XT.lcmp X0.here hx rfl (hb hby d3_2) rfl ?_
      show Steps p.tables e below (s₁.setTop (mkF m 3 #[.val (.long vv), .second, .val (.long tt), .second] [(.int (XT.cmpL vv tt))])) _
      exact k
    by_cases hc3 : vv < tt
    · skip
      have pre3 : ∀ t, Steps p.tables e below (s₁.setTop (mkF m 11 #[.val (.long vv), .second, .val (.long tt), .second] [(.int (0 : Int32))])) t → Steps p.tables e below (s₁.setTop (entryFrame m #[(.long vv), (.long tt)] 4)) t := by
        intro t k
        refine pre2 t ?_
        refine XS.ifYes X0.here hx rfl (pc0 := 3) (pc' := 10) rfl (hb hby d3_3) rfl (XT.ll_lt_t hc3) (by decide) (by decide) ?_
        show Steps p.tables e below (s₁.setTop (mkF m 10 #[.val (.long vv), .second, .val (.long tt), .second] [])) _
        refine XS.iconst X0.here hx rfl (hb hby d3_10) ?_
        show Steps p.tables e below (s₁.setTop (mkF m 11 #[.val (.long vv), .second, .val (.long tt), .second] [(.int (0 : Int32))])) _
        exact k
      exact ⟨(0 : Int32), _, _, X0, N0, e0, (by first | (simp [own_bi, hc3]; done) | contradiction), pre3⟩
    · skip
      have pre4 : ∀ t, Steps p.tables e below (s₁.setTop (mkF m 11 #[.val (.long vv), .second, .val (.long tt), .second] [(.int (1 : Int32))])) t → Steps p.tables e below (s₁.setTop (entryFrame m #[(.long vv), (.long tt)] 4)) t := by
        intro t k
        refine pre2 t ?_
        refine XS.ifNo X0.here hx rfl (hb hby d3_3) rfl (XT.ll_lt_f hc3) ?_
        show Steps p.tables e below (s₁.setTop (mkF m 6 #[.val (.long vv), .second, .val (.long tt), .second] [])) _
        refine XS.iconst X0.here hx rfl (hb hby d3_6) ?_
        show Steps p.tables e below (s₁.setTop (mkF m 7 #[.val (.long vv), .second, .val (.long tt), .second] [(.int (1 : Int32))])) _
        refine XS.goto X0.here hx rfl (pc0 := 7) (pc' := 11) rfl (hb hby d3_7) (by decide) (by decide) ?_
        show Steps p.tables e below (s₁.setTop (mkF m 11 #[.val (.long vv), .second, .val (.long tt), .second] [(.int (1 : Int32))])) _
        exact k
      exact ⟨(1 : Int32), _, _, X0, N0, e0, (by first | (simp [own_bi, hc3]; done) | contradiction), pre4⟩
  obtain ⟨b, T1, Lo1, X1, N1, e1, hb, pre1⟩ := mrg1
  subst hb
  obtain ⟨fs, hr, hrun, hended, hW, hsame⟩ := X1.leave (v := some (.int (own_bi (¬ vv < tt)))) (fun h => by rw [Bd.returns] at h; cases h)
  refine ⟨_, _, pre1 _ ?_, hrun, hended, _, _, rfl, ?_, ⟨_, rfl⟩, hW, hsame.mono (by decide) (by decide)⟩
  · exact retOut X1 hx Bd.returns rfl (Or.inl ⟨rfl, by simp, _, rfl⟩) (hb hby d3_11) hr
  · show Q3 Z vv tt h0 n0 _ T1.heap _
    rw [e1]
    exact ⟨rfl, N1, rfl⟩
theorem d4_0 : decode jdk_29_method_65_code 0 = .ok (.iload_n 0, 1) := by decide +kernel
theorem d4_1 : decode jdk_29_method_65_code 1 = .ok (.iload_n 1, 1) := by decide +kernel
theorem d4_2 : decode jdk_29_method_65_code 2 = .ok (.if_icmp .lt 7, 3) := by decide +kernel
theorem d4_5 : decode jdk_29_method_65_code 5 = .ok (.iload_n 0, 1) := by decide +kernel
theorem d4_6 : decode jdk_29_method_65_code 6 = .ok (.goto 4, 3) := by decide +kernel
theorem d4_9 : decode jdk_29_method_65_code 9 = .ok (.iload_n 1, 1) := by decide +kernel
theorem d4_10 : decode jdk_29_method_65_code 10 = .ok (.ireturn, 1) := by decide +kernel
theorem ef_4 (m : MethodId) (xx : Int32) (yy : Int32) : entryFrame m #[(.int xx), (.int yy)] 2 = mkF m 0 #[.val (.int xx), .val (.int yy)] [] := by first | (simp [entryFrame, mkF, argsToLocals, Value.category]; done) | rfl
def Q4 (Z : State) (xx : Int32) (yy : Int32) (h0 : Heap) (n0 : Nat) (v : Option Value) (h : Heap) (L : List Loc) : Prop := v = some (.int (if xx < yy then yy else xx)) ∧ Fr n0 L ∧ h = h0
set_option maxRecDepth 65536 in
set_option maxHeartbeats 40000000 in
theorem rm4 (l : Launch) (Z : State) (a0 : Array Value) (hw : ∀ d ∈ tables_1, d.before a0 Z = true) (ws : List Jvm.Cond) (xx : Int32) (yy : Int32) (h0 : Heap) (n0 : Nat) (Z0 : n0 ≤ h0.size) :
    MetFree l (⟨"java/lang/Math", "max", "(II)I"⟩ : MethodName) (head1 (Jvm.Cond.code (⟨"java/lang/Math", "max", "(II)I"⟩ : MethodName) jdk_29_method_65_code 2 (some .int) :: ws) ({ frames := 0, cells := 0, slots := 0, locals := 0 } : Room)) (fun a U => a = #[(.int xx), (.int yy)] ∧ Z.Warmed39 U.vm ∧ U.heap = h0) (fun _ _ _ _ _ => True) (fun _ U o U' => ∃ v L, o = .returned v ∧ Q4 Z xx yy h0 n0 v U'.heap L ∧ FrameEnd U o U' L ({ frames := 0, cells := 0, slots := 0, locals := 0 } : Room).cells ({ frames := 0, cells := 0, slots := 0, locals := 0 } : Room).slots) := by
  refine MetFree.of_bodySF (by decide +kernel) hisR ?_
  intro p e s m args below meth c s₁ Bd hml0 hP hK
  obtain ⟨rfl, hZ, hh⟩ := hP
  have hx := Bd.exec
  have hby := Bd.bytes
  have hml : c.maxLocals = 2 := hml0
  have hown : s.vm.findClass "java/lang/Math" = some m.cls := findClass_of_methodNamed Bd.named
  have hnm := (name_of_methodNamed Bd.named Bd.method).1
  have X0 : Stand p l e ({ frames := 0, cells := 0, slots := 0, locals := 0 } : Room) s m #[(.int xx), (.int yy)] below meth c s₁ [] 0 0 := Stand.of_body Bd
  have e0 : s₁.heap = h0 := by rw [← hh, Bd.state]; rfl
  have N0 := Fr.nil n0
  have pre0 : ∀ t, Steps p.tables e below (s₁.setTop (mkF m 0 #[.val (.int xx), .val (.int yy)] [])) t → Steps p.tables e below (s₁.setTop (entryFrame m #[(.int xx), (.int yy)] 2)) t := fun t k => castTop (ef_4 m xx yy) k
  have mrg1 : ∃ (b : Int32) (T1 : State) (Lo1 : List Loc), Stand p l e ({ frames := 0, cells := 0, slots := 0, locals := 0 } : Room) s m #[(.int xx), (.int yy)] below meth c T1 Lo1 0 0 ∧ Fr n0 Lo1 ∧ T1.heap = h0 ∧ (b = if xx < yy then yy else xx) ∧ ∀ t, Steps p.tables e below (T1.setTop (mkF m 10 #[.val (.int xx), .val (.int yy)] [(.int b)])) t → Steps p.tables e below (s₁.setTop (entryFrame m #[(.int xx), (.int yy)] 2)) t := by
    have pre2 : ∀ t, Steps p.tables e below (s₁.setTop (mkF m 2 #[.val (.int xx), .val (.int yy)] [(.int yy), (.int xx)])) t → Steps p.tables e below (s₁.setTop (entryFrame m #[(.int xx), (.int yy)] 2)) t := by
      intro t k
      refine pre0 t ?_
      refine XS.iloadN X0.here hx rfl (hb hby d4_0) rfl ?_
      show Steps p.tables e below (s₁.setTop (mkF m 1 #[.val (.int xx), .val (.int yy)] [(.int xx)])) _
      refine XS.iloadN X0.here hx rfl (hb hby d4_1) rfl ?_
      show Steps p.tables e below (s₁.setTop (mkF m 2 #[.val (.int xx), .val (.int yy)] [(.int yy), (.int xx)])) _
      exact k
    by_cases hc2 : xx < yy
    · skip
      have pre3 : ∀ t, Steps p.tables e below (s₁.setTop (mkF m 10 #[.val (.int xx), .val (.int yy)] [(.int yy)])) t → Steps p.tables e below (s₁.setTop (entryFrame m #[(.int xx), (.int yy)] 2)) t := by
        intro t k
        refine pre2 t ?_
        refine XS.icmpYes X0.here hx rfl (pc0 := 2) (pc' := 9) rfl (hb hby d4_2) rfl (XT.ii_lt_t hc2) (by decide) (by decide) ?_
        show Steps p.tables e below (s₁.setTop (mkF m 9 #[.val (.int xx), .val (.int yy)] [])) _
        refine XS.iloadN X0.here hx rfl (hb hby d4_9) rfl ?_
        show Steps p.tables e below (s₁.setTop (mkF m 10 #[.val (.int xx), .val (.int yy)] [(.int yy)])) _
        exact k
      exact ⟨yy, _, _, X0, N0, e0, (by first | (simp [own_bi, hc2]; done) | contradiction), pre3⟩
    · skip
      have pre4 : ∀ t, Steps p.tables e below (s₁.setTop (mkF m 10 #[.val (.int xx), .val (.int yy)] [(.int xx)])) t → Steps p.tables e below (s₁.setTop (entryFrame m #[(.int xx), (.int yy)] 2)) t := by
        intro t k
        refine pre2 t ?_
        refine XS.icmpNo X0.here hx rfl (hb hby d4_2) rfl (XT.ii_lt_f hc2) ?_
        show Steps p.tables e below (s₁.setTop (mkF m 5 #[.val (.int xx), .val (.int yy)] [])) _
        refine XS.iloadN X0.here hx rfl (hb hby d4_5) rfl ?_
        show Steps p.tables e below (s₁.setTop (mkF m 6 #[.val (.int xx), .val (.int yy)] [(.int xx)])) _
        refine XS.goto X0.here hx rfl (pc0 := 6) (pc' := 10) rfl (hb hby d4_6) (by decide) (by decide) ?_
        show Steps p.tables e below (s₁.setTop (mkF m 10 #[.val (.int xx), .val (.int yy)] [(.int xx)])) _
        exact k
      exact ⟨xx, _, _, X0, N0, e0, (by first | (simp [own_bi, hc2]; done) | contradiction), pre4⟩
  obtain ⟨b, T1, Lo1, X1, N1, e1, hb, pre1⟩ := mrg1
  subst hb
  obtain ⟨fs, hr, hrun, hended, hW, hsame⟩ := X1.leave (v := some (.int (if xx < yy then yy else xx))) (fun h => by rw [Bd.returns] at h; cases h)
  refine ⟨_, _, pre1 _ ?_, hrun, hended, _, _, rfl, ?_, ⟨_, rfl⟩, hW, hsame.mono (by decide) (by decide)⟩
  · exact retOut X1 hx Bd.returns rfl (Or.inl ⟨rfl, by simp, _, rfl⟩) (hb hby d4_10) hr
  · show Q4 Z xx yy h0 n0 _ T1.heap _
    rw [e1]
    exact ⟨rfl, N1, rfl⟩
theorem pn_1 : plainName "com/example/byteweave/byteweave/keyed/Vsui" = true := by first | (simp [plainName, overriddenIn]; done) | decide +kernel
theorem d1_0 : decode prog_18_method_4_code 0 = .ok (.iconst 1, 1) := by decide +kernel
theorem d1_1 : decode prog_18_method_4_code 1 = .ok (.istore_n 2, 1) := by decide +kernel
theorem d1_2 : decode prog_18_method_4_code 2 = .ok (.lload_n 0, 1) := by decide +kernel
theorem d1_3 : decode prog_18_method_4_code 3 = .ok (.bipush 7, 2) := by decide +kernel
theorem d1_5 : decode prog_18_method_4_code 5 = .ok (.lushr, 1) := by decide +kernel
theorem d1_6 : decode prog_18_method_4_code 6 = .ok (.lstore_n 3, 1) := by decide +kernel
theorem d1_7 : decode prog_18_method_4_code 7 = .ok (.lload_n 3, 1) := by decide +kernel
theorem d1_8 : decode prog_18_method_4_code 8 = .ok (.lconst 0, 1) := by decide +kernel
theorem d1_9 : decode prog_18_method_4_code 9 = .ok (.lcmp, 1) := by decide +kernel
theorem d1_10 : decode prog_18_method_4_code 10 = .ok (.ifCond .eq 14, 3) := by decide +kernel
theorem d1_13 : decode prog_18_method_4_code 13 = .ok (.iinc 2 1, 3) := by decide +kernel
theorem d1_16 : decode prog_18_method_4_code 16 = .ok (.lload_n 3, 1) := by decide +kernel
theorem d1_17 : decode prog_18_method_4_code 17 = .ok (.bipush 7, 2) := by decide +kernel
theorem d1_19 : decode prog_18_method_4_code 19 = .ok (.lushr, 1) := by decide +kernel
theorem d1_20 : decode prog_18_method_4_code 20 = .ok (.lstore_n 3, 1) := by decide +kernel
theorem d1_21 : decode prog_18_method_4_code 21 = .ok (.goto (-14), 3) := by decide +kernel
theorem d1_24 : decode prog_18_method_4_code 24 = .ok (.iload_n 2, 1) := by decide +kernel
theorem d1_25 : decode prog_18_method_4_code 25 = .ok (.ireturn, 1) := by decide +kernel
theorem ef_1 (m : MethodId) (vv : Int64) : entryFrame m #[(.long vv)] 5 = mkF m 0 #[.val (.long vv), .second, .unset, .unset, .unset] [] := by first | (simp [entryFrame, mkF, argsToLocals, Value.category]; done) | rfl
def Q1 (Z : State) (vv : Int64) (h0 : Heap) (n0 : Nat) (v : Option Value) (h : Heap) (L : List Loc) : Prop := v = some (.int (own_len vv)) ∧ Fr n0 L ∧ h = h0
set_option maxRecDepth 65536 in
set_option maxHeartbeats 40000000 in
theorem rm1 (l : Launch) (Z : State) (a0 : Array Value) (hw : ∀ d ∈ tables_1, d.before a0 Z = true) (ws : List Jvm.Cond) (vv : Int64) (h0 : Heap) (n0 : Nat) (Z0 : n0 ≤ h0.size) (hv : own_N vv < 2 ^ 63) :
    MetFree l (⟨"com/example/byteweave/byteweave/keyed/Vsui", "length", "(J)I"⟩ : MethodName) (head1 (Jvm.Cond.code (⟨"com/example/byteweave/byteweave/keyed/Vsui", "length", "(J)I"⟩ : MethodName) prog_18_method_4_code 5 (some .int) :: ws) ({ frames := 0, cells := 0, slots := 0, locals := 0 } : Room)) (fun a U => a = #[(.long vv)] ∧ Z.Warmed39 U.vm ∧ U.heap = h0) (fun _ _ _ _ _ => True) (fun _ U o U' => ∃ v L, o = .returned v ∧ Q1 Z vv h0 n0 v U'.heap L ∧ FrameEnd U o U' L ({ frames := 0, cells := 0, slots := 0, locals := 0 } : Room).cells ({ frames := 0, cells := 0, slots := 0, locals := 0 } : Room).slots) := by
  refine MetFree.of_bodySF (plainFor_of_name pn_1) hisR ?_
  intro p e s m args below meth c s₁ Bd hml0 hP hK
  obtain ⟨rfl, hZ, hh⟩ := hP
  have hx := Bd.exec
  have hby := Bd.bytes
  have hml : c.maxLocals = 5 := hml0
  have hown : s.vm.findClass "com/example/byteweave/byteweave/keyed/Vsui" = some m.cls := findClass_of_methodNamed Bd.named
  have hnm := (name_of_methodNamed Bd.named Bd.method).1
  have X0 : Stand p l e ({ frames := 0, cells := 0, slots := 0, locals := 0 } : Room) s m #[(.long vv)] below meth c s₁ [] 0 0 := Stand.of_body Bd
  have e0 : s₁.heap = h0 := by rw [← hh, Bd.state]; rfl
  have N0 := Fr.nil n0
  have pre0 : ∀ t, Steps p.tables e below (s₁.setTop (mkF m 0 #[.val (.long vv), .second, .unset, .unset, .unset] [])) t → Steps p.tables e below (s₁.setTop (entryFrame m #[(.long vv)] 5)) t := fun t k => castTop (ef_1 m vv) k
  have pre1 : ∀ t, Steps p.tables e below (s₁.setTop (mkF m 7 #[.val (.long vv), .second, .val (.int (1 : Int32)), .val (.long (XT.ushrL vv (7 : Int32))), .second] [])) t → Steps p.tables e below (s₁.setTop (entryFrame m #[(.long vv)] 5)) t := by
    intro t k
    refine pre0 t ?_
    refine XS.iconst X0.here hx rfl (hb hby d1_0) ?_
    show Steps p.tables e below (s₁.setTop (mkF m 1 #[.val (.long vv), .second, .unset, .unset, .unset] [(.int (1 : Int32))])) _
    refine XS.istoreN X0.here hx rfl (hb hby d1_1) rfl (l' := #[.val (.long vv), .second, .val (.int (1 : Int32)), .unset, .unset]) rfl ?_
    show Steps p.tables e below (s₁.setTop (mkF m 2 #[.val (.long vv), .second, .val (.int (1 : Int32)), .unset, .unset] [])) _
    refine XT.lloadN X0.here hx rfl (hb hby d1_2) rfl ?_
    show Steps p.tables e below (s₁.setTop (mkF m 3 #[.val (.long vv), .second, .val (.int (1 : Int32)), .unset, .unset] [(.long vv)])) _
    refine XS.bipush X0.here hx rfl (hb hby d1_3) ?_
    show Steps p.tables e below (s₁.setTop (mkF m 5 #[.val (.long vv), .second, .val (.int (1 : Int32)), .unset, .unset] [(.int (7 : Int32)), (.long vv)])) _
    refine XT.lushr X0.here hx rfl (hb hby d1_5) rfl ?_
    show Steps p.tables e below (s₁.setTop (mkF m 6 #[.val (.long vv), .second, .val (.int (1 : Int32)), .unset, .unset] [(.long (XT.ushrL vv (7 : Int32)))])) _
    refine XT.lstoreN X0.here hx rfl (hb hby d1_6) rfl (l' := #[.val (.long vv), .second, .val (.int (1 : Int32)), .val (.long (XT.ushrL vv (7 : Int32))), .second]) rfl ?_
    show Steps p.tables e below (s₁.setTop (mkF m 7 #[.val (.long vv), .second, .val (.int (1 : Int32)), .val (.long (XT.ushrL vv (7 : Int32))), .second] [])) _
    exact k
  obtain ⟨r1, hn_r1, pre2⟩ : ∃ r1 : Int64, r1 = (XT.ushrL vv (7 : Int32)) ∧ ∀ t, Steps p.tables e below (s₁.setTop (mkF m 7 #[.val (.long vv), .second, .val (.int (1 : Int32)), .val (.long r1), .second] [])) t → Steps p.tables e below (s₁.setTop (entryFrame m #[(.long vv)] 5)) t := ⟨_, rfl, pre1⟩
  have u1 := own_N7 vv
  rw [← hn_r1] at u1
  have pre3 : ∀ t, Steps p.tables e below (s₁.setTop (mkF m 10 #[.val (.long vv), .second, .val (.int (1 : Int32)), .val (.long r1), .second] [(.int (XT.cmpL r1 (0 : Int64)))])) t → Steps p.tables e below (s₁.setTop (entryFrame m #[(.long vv)] 5)) t := by
    intro t k
    refine pre2 t ?_
    refine XT.lloadN X0.here hx rfl (hb hby d1_7) rfl ?_
    show Steps p.tables e below (s₁.setTop (mkF m 8 #[.val (.long vv), .second, .val (.int (1 : Int32)), .val (.long r1), .second] [(.long r1)])) _
    refine XT.lconst X0.here hx rfl (hb hby d1_8) ?_
    show Steps p.tables e below (s₁.setTop (mkF m 9 #[.val (.long vv), .second, .val (.int (1 : Int32)), .val (.long r1), .second] [(.long (0 : Int64)), (.long r1)])) _
    refine XT.lcmp X0.here hx rfl (hb hby d1_9) rfl ?_
    show Steps p.tables e below (s₁.setTop (mkF m 10 #[.val (.long vv), .second, .val (.int (1 : Int32)), .val (.long r1), .second] [(.int (XT.cmpL r1 (0 : Int64)))])) _
    exact k
  by_cases hs1 : r1 = (0 : Int64)
  · skip
    have pre4 : ∀ t, Steps p.tables e below (s₁.setTop (mkF m 25 #[.val (.long vv), .second, .val (.int (1 : Int32)), .val (.long r1), .second] [(.int (1 : Int32))])) t → Steps p.tables e below (s₁.setTop (entryFrame m #[(.long vv)] 5)) t := by
      intro t k
      refine pre3 t ?_
      refine XS.ifYes X0.here hx rfl (pc0 := 10) (pc' := 24) rfl (hb hby d1_10) rfl (XT.ll_eq_t hs1) (by decide) (by decide) ?_
      show Steps p.tables e below (s₁.setTop (mkF m 24 #[.val (.long vv), .second, .val (.int (1 : Int32)), .val (.long r1), .second] [])) _
      refine XS.iloadN X0.here hx rfl (hb hby d1_24) rfl ?_
      show Steps p.tables e below (s₁.setTop (mkF m 25 #[.val (.long vv), .second, .val (.int (1 : Int32)), .val (.long r1), .second] [(.int (1 : Int32))])) _
      exact k
    obtain ⟨fs, hr, hrun, hended, hW, hsame⟩ := X0.leave (v := some (.int (1 : Int32))) (fun h => by rw [Bd.returns] at h; cases h)
    refine ⟨_, _, pre4 _ ?_, hrun, hended, _, _, rfl, ?_, ⟨_, rfl⟩, hW, hsame.mono (by decide) (by decide)⟩
    · exact retOut X0 hx Bd.returns rfl (Or.inl ⟨rfl, by simp, _, rfl⟩) (hb hby d1_25) hr
    · show Q1 Z vv h0 n0 _ s₁.heap _
      rw [e0]
      exact ⟨(by unfold own_len; rw [← hn_r1, own_lenF_z hs1]), N0, rfl⟩
  · skip
    have pre6 : ∀ t, Steps p.tables e below (s₁.setTop (mkF m 7 #[.val (.long vv), .second, .val (.int ((1 : Int32) + (1 : Int32))), .val (.long (XT.ushrL r1 (7 : Int32))), .second] [])) t → Steps p.tables e below (s₁.setTop (entryFrame m #[(.long vv)] 5)) t := by
      intro t k
      refine pre3 t ?_
      refine XS.ifNo X0.here hx rfl (hb hby d1_10) rfl (XT.ll_eq_f hs1) ?_
      show Steps p.tables e below (s₁.setTop (mkF m 13 #[.val (.long vv), .second, .val (.int (1 : Int32)), .val (.long r1), .second] [])) _
      refine XS.iinc X0.here hx rfl (hb hby d1_13) rfl (l' := #[.val (.long vv), .second, .val (.int ((1 : Int32) + (1 : Int32))), .val (.long r1), .second]) rfl ?_
      show Steps p.tables e below (s₁.setTop (mkF m 16 #[.val (.long vv), .second, .val (.int ((1 : Int32) + (1 : Int32))), .val (.long r1), .second] [])) _
      refine XT.lloadN X0.here hx rfl (hb hby d1_16) rfl ?_
      show Steps p.tables e below (s₁.setTop (mkF m 17 #[.val (.long vv), .second, .val (.int ((1 : Int32) + (1 : Int32))), .val (.long r1), .second] [(.long r1)])) _
      refine XS.bipush X0.here hx rfl (hb hby d1_17) ?_
      show Steps p.tables e below (s₁.setTop (mkF m 19 #[.val (.long vv), .second, .val (.int ((1 : Int32) + (1 : Int32))), .val (.long r1), .second] [(.int (7 : Int32)), (.long r1)])) _
      refine XT.lushr X0.here hx rfl (hb hby d1_19) rfl ?_
      show Steps p.tables e below (s₁.setTop (mkF m 20 #[.val (.long vv), .second, .val (.int ((1 : Int32) + (1 : Int32))), .val (.long r1), .second] [(.long (XT.ushrL r1 (7 : Int32)))])) _
      refine XT.lstoreN X0.here hx rfl (hb hby d1_20) rfl (l' := #[.val (.long vv), .second, .val (.int ((1 : Int32) + (1 : Int32))), .val (.long (XT.ushrL r1 (7 : Int32))), .second]) rfl ?_
      show Steps p.tables e below (s₁.setTop (mkF m 21 #[.val (.long vv), .second, .val (.int ((1 : Int32) + (1 : Int32))), .val (.long (XT.ushrL r1 (7 : Int32))), .second] [])) _
      refine XS.goto X0.here hx rfl (pc0 := 21) (pc' := 7) rfl (hb hby d1_21) (by decide) (by decide) ?_
      show Steps p.tables e below (s₁.setTop (mkF m 7 #[.val (.long vv), .second, .val (.int ((1 : Int32) + (1 : Int32))), .val (.long (XT.ushrL r1 (7 : Int32))), .second] [])) _
      exact k
    obtain ⟨r2, hn_r2, pre7⟩ : ∃ r2 : Int64, r2 = (XT.ushrL r1 (7 : Int32)) ∧ ∀ t, Steps p.tables e below (s₁.setTop (mkF m 7 #[.val (.long vv), .second, .val (.int ((1 : Int32) + (1 : Int32))), .val (.long r2), .second] [])) t → Steps p.tables e below (s₁.setTop (entryFrame m #[(.long vv)] 5)) t := ⟨_, rfl, pre6⟩
    have u2 := own_N7 r1
    rw [← hn_r2] at u2
    have pre8 : ∀ t, Steps p.tables e below (s₁.setTop (mkF m 10 #[.val (.long vv), .second, .val (.int ((1 : Int32) + (1 : Int32))), .val (.long r2), .second] [(.int (XT.cmpL r2 (0 : Int64)))])) t → Steps p.tables e below (s₁.setTop (entryFrame m #[(.long vv)] 5)) t := by
      intro t k
      refine pre7 t ?_
      refine XT.lloadN X0.here hx rfl (hb hby d1_7) rfl ?_
      show Steps p.tables e below (s₁.setTop (mkF m 8 #[.val (.long vv), .second, .val (.int ((1 : Int32) + (1 : Int32))), .val (.long r2), .second] [(.long r2)])) _
      refine XT.lconst X0.here hx rfl (hb hby d1_8) ?_
      show Steps p.tables e below (s₁.setTop (mkF m 9 #[.val (.long vv), .second, .val (.int ((1 : Int32) + (1 : Int32))), .val (.long r2), .second] [(.long (0 : Int64)), (.long r2)])) _
      refine XT.lcmp X0.here hx rfl (hb hby d1_9) rfl ?_
      show Steps p.tables e below (s₁.setTop (mkF m 10 #[.val (.long vv), .second, .val (.int ((1 : Int32) + (1 : Int32))), .val (.long r2), .second] [(.int (XT.cmpL r2 (0 : Int64)))])) _
      exact k
    by_cases hs2 : r2 = (0 : Int64)
    · skip
      have pre9 : ∀ t, Steps p.tables e below (s₁.setTop (mkF m 25 #[.val (.long vv), .second, .val (.int ((1 : Int32) + (1 : Int32))), .val (.long r2), .second] [(.int ((1 : Int32) + (1 : Int32)))])) t → Steps p.tables e below (s₁.setTop (entryFrame m #[(.long vv)] 5)) t := by
        intro t k
        refine pre8 t ?_
        refine XS.ifYes X0.here hx rfl (pc0 := 10) (pc' := 24) rfl (hb hby d1_10) rfl (XT.ll_eq_t hs2) (by decide) (by decide) ?_
        show Steps p.tables e below (s₁.setTop (mkF m 24 #[.val (.long vv), .second, .val (.int ((1 : Int32) + (1 : Int32))), .val (.long r2), .second] [])) _
        refine XS.iloadN X0.here hx rfl (hb hby d1_24) rfl ?_
        show Steps p.tables e below (s₁.setTop (mkF m 25 #[.val (.long vv), .second, .val (.int ((1 : Int32) + (1 : Int32))), .val (.long r2), .second] [(.int ((1 : Int32) + (1 : Int32)))])) _
        exact k
      obtain ⟨fs, hr, hrun, hended, hW, hsame⟩ := X0.leave (v := some (.int ((1 : Int32) + (1 : Int32)))) (fun h => by rw [Bd.returns] at h; cases h)
      refine ⟨_, _, pre9 _ ?_, hrun, hended, _, _, rfl, ?_, ⟨_, rfl⟩, hW, hsame.mono (by decide) (by decide)⟩
      · exact retOut X0 hx Bd.returns rfl (Or.inl ⟨rfl, by simp, _, rfl⟩) (hb hby d1_25) hr
      · show Q1 Z vv h0 n0 _ s₁.heap _
        rw [e0]
        exact ⟨(by unfold own_len; rw [← hn_r1, own_lenF_s hs1, ← hn_r2, own_lenF_z hs2]), N0, rfl⟩
    · skip
      have pre11 : ∀ t, Steps p.tables e below (s₁.setTop (mkF m 7 #[.val (.long vv), .second, .val (.int (((1 : Int32) + (1 : Int32)) + (1 : Int32))), .val (.long (XT.ushrL r2 (7 : Int32))), .second] [])) t → Steps p.tables e below (s₁.setTop (entryFrame m #[(.long vv)] 5)) t := by
        intro t k
        refine pre8 t ?_
        refine XS.ifNo X0.here hx rfl (hb hby d1_10) rfl (XT.ll_eq_f hs2) ?_
        show Steps p.tables e below (s₁.setTop (mkF m 13 #[.val (.long vv), .second, .val (.int ((1 : Int32) + (1 : Int32))), .val (.long r2), .second] [])) _
        refine XS.iinc X0.here hx rfl (hb hby d1_13) rfl (l' := #[.val (.long vv), .second, .val (.int (((1 : Int32) + (1 : Int32)) + (1 : Int32))), .val (.long r2), .second]) rfl ?_
        show Steps p.tables e below (s₁.setTop (mkF m 16 #[.val (.long vv), .second, .val (.int (((1 : Int32) + (1 : Int32)) + (1 : Int32))), .val (.long r2), .second] [])) _
        refine XT.lloadN X0.here hx rfl (hb hby d1_16) rfl ?_
        show Steps p.tables e below (s₁.setTop (mkF m 17 #[.val (.long vv), .second, .val (.int (((1 : Int32) + (1 : Int32)) + (1 : Int32))), .val (.long r2), .second] [(.long r2)])) _
        refine XS.bipush X0.here hx rfl (hb hby d1_17) ?_
        show Steps p.tables e below (s₁.setTop (mkF m 19 #[.val (.long vv), .second, .val (.int (((1 : Int32) + (1 : Int32)) + (1 : Int32))), .val (.long r2), .second] [(.int (7 : Int32)), (.long r2)])) _
        refine XT.lushr X0.here hx rfl (hb hby d1_19) rfl ?_
        show Steps p.tables e below (s₁.setTop (mkF m 20 #[.val (.long vv), .second, .val (.int (((1 : Int32) + (1 : Int32)) + (1 : Int32))), .val (.long r2), .second] [(.long (XT.ushrL r2 (7 : Int32)))])) _
        refine XT.lstoreN X0.here hx rfl (hb hby d1_20) rfl (l' := #[.val (.long vv), .second, .val (.int (((1 : Int32) + (1 : Int32)) + (1 : Int32))), .val (.long (XT.ushrL r2 (7 : Int32))), .second]) rfl ?_
        show Steps p.tables e below (s₁.setTop (mkF m 21 #[.val (.long vv), .second, .val (.int (((1 : Int32) + (1 : Int32)) + (1 : Int32))), .val (.long (XT.ushrL r2 (7 : Int32))), .second] [])) _
        refine XS.goto X0.here hx rfl (pc0 := 21) (pc' := 7) rfl (hb hby d1_21) (by decide) (by decide) ?_
        show Steps p.tables e below (s₁.setTop (mkF m 7 #[.val (.long vv), .second, .val (.int (((1 : Int32) + (1 : Int32)) + (1 : Int32))), .val (.long (XT.ushrL r2 (7 : Int32))), .second] [])) _
        exact k
      obtain ⟨r3, hn_r3, pre12⟩ : ∃ r3 : Int64, r3 = (XT.ushrL r2 (7 : Int32)) ∧ ∀ t, Steps p.tables e below (s₁.setTop (mkF m 7 #[.val (.long vv), .second, .val (.int (((1 : Int32) + (1 : Int32)) + (1 : Int32))), .val (.long r3), .second] [])) t → Steps p.tables e below (s₁.setTop (entryFrame m #[(.long vv)] 5)) t := ⟨_, rfl, pre11⟩
      have u3 := own_N7 r2
      rw [← hn_r3] at u3
      have pre13 : ∀ t, Steps p.tables e below (s₁.setTop (mkF m 10 #[.val (.long vv), .second, .val (.int (((1 : Int32) + (1 : Int32)) + (1 : Int32))), .val (.long r3), .second] [(.int (XT.cmpL r3 (0 : Int64)))])) t → Steps p.tables e below (s₁.setTop (entryFrame m #[(.long vv)] 5)) t := by
        intro t k
        refine pre12 t ?_
        refine XT.lloadN X0.here hx rfl (hb hby d1_7) rfl ?_
        show Steps p.tables e below (s₁.setTop (mkF m 8 #[.val (.long vv), .second, .val (.int (((1 : Int32) + (1 : Int32)) + (1 : Int32))), .val (.long r3), .second] [(.long r3)])) _
        refine XT.lconst X0.here hx rfl (hb hby d1_8) ?_
        show Steps p.tables e below (s₁.setTop (mkF m 9 #[.val (.long vv), .second, .val (.int (((1 : Int32) + (1 : Int32)) + (1 : Int32))), .val (.long r3), .second] [(.long (0 : Int64)), (.long r3)])) _
        refine XT.lcmp X0.here hx rfl (hb hby d1_9) rfl ?_
        show Steps p.tables e below (s₁.setTop (mkF m 10 #[.val (.long vv), .second, .val (.int (((1 : Int32) + (1 : Int32)) + (1 : Int32))), .val (.long r3), .second] [(.int (XT.cmpL r3 (0 : Int64)))])) _
        exact k
      by_cases hs3 : r3 = (0 : Int64)
      · skip
        have pre14 : ∀ t, Steps p.tables e below (s₁.setTop (mkF m 25 #[.val (.long vv), .second, .val (.int (((1 : Int32) + (1 : Int32)) + (1 : Int32))), .val (.long r3), .second] [(.int (((1 : Int32) + (1 : Int32)) + (1 : Int32)))])) t → Steps p.tables e below (s₁.setTop (entryFrame m #[(.long vv)] 5)) t := by
          intro t k
          refine pre13 t ?_
          refine XS.ifYes X0.here hx rfl (pc0 := 10) (pc' := 24) rfl (hb hby d1_10) rfl (XT.ll_eq_t hs3) (by decide) (by decide) ?_
          show Steps p.tables e below (s₁.setTop (mkF m 24 #[.val (.long vv), .second, .val (.int (((1 : Int32) + (1 : Int32)) + (1 : Int32))), .val (.long r3), .second] [])) _
          refine XS.iloadN X0.here hx rfl (hb hby d1_24) rfl ?_
          show Steps p.tables e below (s₁.setTop (mkF m 25 #[.val (.long vv), .second, .val (.int (((1 : Int32) + (1 : Int32)) + (1 : Int32))), .val (.long r3), .second] [(.int (((1 : Int32) + (1 : Int32)) + (1 : Int32)))])) _
          exact k
        obtain ⟨fs, hr, hrun, hended, hW, hsame⟩ := X0.leave (v := some (.int (((1 : Int32) + (1 : Int32)) + (1 : Int32)))) (fun h => by rw [Bd.returns] at h; cases h)
        refine ⟨_, _, pre14 _ ?_, hrun, hended, _, _, rfl, ?_, ⟨_, rfl⟩, hW, hsame.mono (by decide) (by decide)⟩
        · exact retOut X0 hx Bd.returns rfl (Or.inl ⟨rfl, by simp, _, rfl⟩) (hb hby d1_25) hr
        · show Q1 Z vv h0 n0 _ s₁.heap _
          rw [e0]
          exact ⟨(by unfold own_len; rw [← hn_r1, own_lenF_s hs1, ← hn_r2, own_lenF_s hs2, ← hn_r3, own_lenF_z hs3]), N0, rfl⟩
      · skip
        have pre16 : ∀ t, Steps p.tables e below (s₁.setTop (mkF m 7 #[.val (.long vv), .second, .val (.int ((((1 : Int32) + (1 : Int32)) + (1 : Int32)) + (1 : Int32))), .val (.long (XT.ushrL r3 (7 : Int32))), .second] [])) t → Steps p.tables e below (s₁.setTop (entryFrame m #[(.long vv)] 5)) t := by
          intro t k
          refine pre13 t ?_
          refine XS.ifNo X0.here hx rfl (hb hby d1_10) rfl (XT.ll_eq_f hs3) ?_
          show Steps p.tables e below (s₁.setTop (mkF m 13 #[.val (.long vv), .second, .val (.int (((1 : Int32) + (1 : Int32)) + (1 : Int32))), .val (.long r3), .second] [])) _
          refine XS.iinc X0.here hx rfl (hb hby d1_13) rfl (l' := #[.val (.long vv), .second, .val (.int ((((1 : Int32) + (1 : Int32)) + (1 : Int32)) + (1 : Int32))), .val (.long r3), .second]) rfl ?_
          show Steps p.tables e below (s₁.setTop (mkF m 16 #[.val (.long vv), .second, .val (.int ((((1 : Int32) + (1 : Int32)) + (1 : Int32)) + (1 : Int32))), .val (.long r3), .second] [])) _
          refine XT.lloadN X0.here hx rfl (hb hby d1_16) rfl ?_
          show Steps p.tables e below (s₁.setTop (mkF m 17 #[.val (.long vv), .second, .val (.int ((((1 : Int32) + (1 : Int32)) + (1 : Int32)) + (1 : Int32))), .val (.long r3), .second] [(.long r3)])) _
          refine XS.bipush X0.here hx rfl (hb hby d1_17) ?_
          show Steps p.tables e below (s₁.setTop (mkF m 19 #[.val (.long vv), .second, .val (.int ((((1 : Int32) + (1 : Int32)) + (1 : Int32)) + (1 : Int32))), .val (.long r3), .second] [(.int (7 : Int32)), (.long r3)])) _
          refine XT.lushr X0.here hx rfl (hb hby d1_19) rfl ?_
          show Steps p.tables e below (s₁.setTop (mkF m 20 #[.val (.long vv), .second, .val (.int ((((1 : Int32) + (1 : Int32)) + (1 : Int32)) + (1 : Int32))), .val (.long r3), .second] [(.long (XT.ushrL r3 (7 : Int32)))])) _
          refine XT.lstoreN X0.here hx rfl (hb hby d1_20) rfl (l' := #[.val (.long vv), .second, .val (.int ((((1 : Int32) + (1 : Int32)) + (1 : Int32)) + (1 : Int32))), .val (.long (XT.ushrL r3 (7 : Int32))), .second]) rfl ?_
          show Steps p.tables e below (s₁.setTop (mkF m 21 #[.val (.long vv), .second, .val (.int ((((1 : Int32) + (1 : Int32)) + (1 : Int32)) + (1 : Int32))), .val (.long (XT.ushrL r3 (7 : Int32))), .second] [])) _
          refine XS.goto X0.here hx rfl (pc0 := 21) (pc' := 7) rfl (hb hby d1_21) (by decide) (by decide) ?_
          show Steps p.tables e below (s₁.setTop (mkF m 7 #[.val (.long vv), .second, .val (.int ((((1 : Int32) + (1 : Int32)) + (1 : Int32)) + (1 : Int32))), .val (.long (XT.ushrL r3 (7 : Int32))), .second] [])) _
          exact k
        obtain ⟨r4, hn_r4, pre17⟩ : ∃ r4 : Int64, r4 = (XT.ushrL r3 (7 : Int32)) ∧ ∀ t, Steps p.tables e below (s₁.setTop (mkF m 7 #[.val (.long vv), .second, .val (.int ((((1 : Int32) + (1 : Int32)) + (1 : Int32)) + (1 : Int32))), .val (.long r4), .second] [])) t → Steps p.tables e below (s₁.setTop (entryFrame m #[(.long vv)] 5)) t := ⟨_, rfl, pre16⟩
        have u4 := own_N7 r3
        rw [← hn_r4] at u4
        have pre18 : ∀ t, Steps p.tables e below (s₁.setTop (mkF m 10 #[.val (.long vv), .second, .val (.int ((((1 : Int32) + (1 : Int32)) + (1 : Int32)) + (1 : Int32))), .val (.long r4), .second] [(.int (XT.cmpL r4 (0 : Int64)))])) t → Steps p.tables e below (s₁.setTop (entryFrame m #[(.long vv)] 5)) t := by
          intro t k
          refine pre17 t ?_
          refine XT.lloadN X0.here hx rfl (hb hby d1_7) rfl ?_
          show Steps p.tables e below (s₁.setTop (mkF m 8 #[.val (.long vv), .second, .val (.int ((((1 : Int32) + (1 : Int32)) + (1 : Int32)) + (1 : Int32))), .val (.long r4), .second] [(.long r4)])) _
          refine XT.lconst X0.here hx rfl (hb hby d1_8) ?_
          show Steps p.tables e below (s₁.setTop (mkF m 9 #[.val (.long vv), .second, .val (.int ((((1 : Int32) + (1 : Int32)) + (1 : Int32)) + (1 : Int32))), .val (.long r4), .second] [(.long (0 : Int64)), (.long r4)])) _
          refine XT.lcmp X0.here hx rfl (hb hby d1_9) rfl ?_
          show Steps p.tables e below (s₁.setTop (mkF m 10 #[.val (.long vv), .second, .val (.int ((((1 : Int32) + (1 : Int32)) + (1 : Int32)) + (1 : Int32))), .val (.long r4), .second] [(.int (XT.cmpL r4 (0 : Int64)))])) _
          exact k
        by_cases hs4 : r4 = (0 : Int64)
        · skip
          have pre19 : ∀ t, Steps p.tables e below (s₁.setTop (mkF m 25 #[.val (.long vv), .second, .val (.int ((((1 : Int32) + (1 : Int32)) + (1 : Int32)) + (1 : Int32))), .val (.long r4), .second] [(.int ((((1 : Int32) + (1 : Int32)) + (1 : Int32)) + (1 : Int32)))])) t → Steps p.tables e below (s₁.setTop (entryFrame m #[(.long vv)] 5)) t := by
            intro t k
            refine pre18 t ?_
            refine XS.ifYes X0.here hx rfl (pc0 := 10) (pc' := 24) rfl (hb hby d1_10) rfl (XT.ll_eq_t hs4) (by decide) (by decide) ?_
            show Steps p.tables e below (s₁.setTop (mkF m 24 #[.val (.long vv), .second, .val (.int ((((1 : Int32) + (1 : Int32)) + (1 : Int32)) + (1 : Int32))), .val (.long r4), .second] [])) _
            refine XS.iloadN X0.here hx rfl (hb hby d1_24) rfl ?_
            show Steps p.tables e below (s₁.setTop (mkF m 25 #[.val (.long vv), .second, .val (.int ((((1 : Int32) + (1 : Int32)) + (1 : Int32)) + (1 : Int32))), .val (.long r4), .second] [(.int ((((1 : Int32) + (1 : Int32)) + (1 : Int32)) + (1 : Int32)))])) _
            exact k
          obtain ⟨fs, hr, hrun, hended, hW, hsame⟩ := X0.leave (v := some (.int ((((1 : Int32) + (1 : Int32)) + (1 : Int32)) + (1 : Int32)))) (fun h => by rw [Bd.returns] at h; cases h)
          refine ⟨_, _, pre19 _ ?_, hrun, hended, _, _, rfl, ?_, ⟨_, rfl⟩, hW, hsame.mono (by decide) (by decide)⟩
          · exact retOut X0 hx Bd.returns rfl (Or.inl ⟨rfl, by simp, _, rfl⟩) (hb hby d1_25) hr
          · show Q1 Z vv h0 n0 _ s₁.heap _
            rw [e0]
            exact ⟨(by unfold own_len; rw [← hn_r1, own_lenF_s hs1, ← hn_r2, own_lenF_s hs2, ← hn_r3, own_lenF_s hs3, ← hn_r4, own_lenF_z hs4]), N0, rfl⟩
        · skip
          have pre21 : ∀ t, Steps p.tables e below (s₁.setTop (mkF m 7 #[.val (.long vv), .second, .val (.int (((((1 : Int32) + (1 : Int32)) + (1 : Int32)) + (1 : Int32)) + (1 : Int32))), .val (.long (XT.ushrL r4 (7 : Int32))), .second] [])) t → Steps p.tables e below (s₁.setTop (entryFrame m #[(.long vv)] 5)) t := by
            intro t k
            refine pre18 t ?_
            refine XS.ifNo X0.here hx rfl (hb hby d1_10) rfl (XT.ll_eq_f hs4) ?_
            show Steps p.tables e below (s₁.setTop (mkF m 13 #[.val (.long vv), .second, .val (.int ((((1 : Int32) + (1 : Int32)) + (1 : Int32)) + (1 : Int32))), .val (.long r4), .second] [])) _
            refine XS.iinc X0.here hx rfl (hb hby d1_13) rfl (l' := #[.val (.long vv), .second, .val (.int (((((1 : Int32) + (1 : Int32)) + (1 : Int32)) + (1 : Int32)) + (1 : Int32))), .val (.long r4), .second]) rfl ?_
            show Steps p.tables e below (s₁.setTop (mkF m 16 #[.val (.long vv), .second, .val (.int (((((1 : Int32) + (1 : Int32)) + (1 : Int32)) + (1 : Int32)) + (1 : Int32))), .val (.long r4), .second] [])) _
            refine XT.lloadN X0.here hx rfl (hb hby d1_16) rfl ?_
            show Steps p.tables e below (s₁.setTop (mkF m 17 #[.val (.long vv), .second, .val (.int (((((1 : Int32) + (1 : Int32)) + (1 : Int32)) + (1 : Int32)) + (1 : Int32))), .val (.long r4), .second] [(.long r4)])) _
            refine XS.bipush X0.here hx rfl (hb hby d1_17) ?_
            show Steps p.tables e below (s₁.setTop (mkF m 19 #[.val (.long vv), .second, .val (.int (((((1 : Int32) + (1 : Int32)) + (1 : Int32)) + (1 : Int32)) + (1 : Int32))), .val (.long r4), .second] [(.int (7 : Int32)), (.long r4)])) _
            refine XT.lushr X0.here hx rfl (hb hby d1_19) rfl ?_
            show Steps p.tables e below (s₁.setTop (mkF m 20 #[.val (.long vv), .second, .val (.int (((((1 : Int32) + (1 : Int32)) + (1 : Int32)) + (1 : Int32)) + (1 : Int32))), .val (.long r4), .second] [(.long (XT.ushrL r4 (7 : Int32)))])) _
            refine XT.lstoreN X0.here hx rfl (hb hby d1_20) rfl (l' := #[.val (.long vv), .second, .val (.int (((((1 : Int32) + (1 : Int32)) + (1 : Int32)) + (1 : Int32)) + (1 : Int32))), .val (.long (XT.ushrL r4 (7 : Int32))), .second]) rfl ?_
            show Steps p.tables e below (s₁.setTop (mkF m 21 #[.val (.long vv), .second, .val (.int (((((1 : Int32) + (1 : Int32)) + (1 : Int32)) + (1 : Int32)) + (1 : Int32))), .val (.long (XT.ushrL r4 (7 : Int32))), .second] [])) _
            refine XS.goto X0.here hx rfl (pc0 := 21) (pc' := 7) rfl (hb hby d1_21) (by decide) (by decide) ?_
            show Steps p.tables e below (s₁.setTop (mkF m 7 #[.val (.long vv), .second, .val (.int (((((1 : Int32) + (1 : Int32)) + (1 : Int32)) + (1 : Int32)) + (1 : Int32))), .val (.long (XT.ushrL r4 (7 : Int32))), .second] [])) _
            exact k
          obtain ⟨r5, hn_r5, pre22⟩ : ∃ r5 : Int64, r5 = (XT.ushrL r4 (7 : Int32)) ∧ ∀ t, Steps p.tables e below (s₁.setTop (mkF m 7 #[.val (.long vv), .second, .val (.int (((((1 : Int32) + (1 : Int32)) + (1 : Int32)) + (1 : Int32)) + (1 : Int32))), .val (.long r5), .second] [])) t → Steps p.tables e below (s₁.setTop (entryFrame m #[(.long vv)] 5)) t := ⟨_, rfl, pre21⟩
          have u5 := own_N7 r4
          rw [← hn_r5] at u5
          have pre23 : ∀ t, Steps p.tables e below (s₁.setTop (mkF m 10 #[.val (.long vv), .second, .val (.int (((((1 : Int32) + (1 : Int32)) + (1 : Int32)) + (1 : Int32)) + (1 : Int32))), .val (.long r5), .second] [(.int (XT.cmpL r5 (0 : Int64)))])) t → Steps p.tables e below (s₁.setTop (entryFrame m #[(.long vv)] 5)) t := by
            intro t k
            refine pre22 t ?_
            refine XT.lloadN X0.here hx rfl (hb hby d1_7) rfl ?_
            show Steps p.tables e below (s₁.setTop (mkF m 8 #[.val (.long vv), .second, .val (.int (((((1 : Int32) + (1 : Int32)) + (1 : Int32)) + (1 : Int32)) + (1 : Int32))), .val (.long r5), .second] [(.long r5)])) _
            refine XT.lconst X0.here hx rfl (hb hby d1_8) ?_
            show Steps p.tables e below (s₁.setTop (mkF m 9 #[.val (.long vv), .second, .val (.int (((((1 : Int32) + (1 : Int32)) + (1 : Int32)) + (1 : Int32)) + (1 : Int32))), .val (.long r5), .second] [(.long (0 : Int64)), (.long r5)])) _
            refine XT.lcmp X0.here hx rfl (hb hby d1_9) rfl ?_
            show Steps p.tables e below (s₁.setTop (mkF m 10 #[.val (.long vv), .second, .val (.int (((((1 : Int32) + (1 : Int32)) + (1 : Int32)) + (1 : Int32)) + (1 : Int32))), .val (.long r5), .second] [(.int (XT.cmpL r5 (0 : Int64)))])) _
            exact k
          by_cases hs5 : r5 = (0 : Int64)
          · skip
            have pre24 : ∀ t, Steps p.tables e below (s₁.setTop (mkF m 25 #[.val (.long vv), .second, .val (.int (((((1 : Int32) + (1 : Int32)) + (1 : Int32)) + (1 : Int32)) + (1 : Int32))), .val (.long r5), .second] [(.int (((((1 : Int32) + (1 : Int32)) + (1 : Int32)) + (1 : Int32)) + (1 : Int32)))])) t → Steps p.tables e below (s₁.setTop (entryFrame m #[(.long vv)] 5)) t := by
              intro t k
              refine pre23 t ?_
              refine XS.ifYes X0.here hx rfl (pc0 := 10) (pc' := 24) rfl (hb hby d1_10) rfl (XT.ll_eq_t hs5) (by decide) (by decide) ?_
              show Steps p.tables e below (s₁.setTop (mkF m 24 #[.val (.long vv), .second, .val (.int (((((1 : Int32) + (1 : Int32)) + (1 : Int32)) + (1 : Int32)) + (1 : Int32))), .val (.long r5), .second] [])) _
              refine XS.iloadN X0.here hx rfl (hb hby d1_24) rfl ?_
              show Steps p.tables e below (s₁.setTop (mkF m 25 #[.val (.long vv), .second, .val (.int (((((1 : Int32) + (1 : Int32)) + (1 : Int32)) + (1 : Int32)) + (1 : Int32))), .val (.long r5), .second] [(.int (((((1 : Int32) + (1 : Int32)) + (1 : Int32)) + (1 : Int32)) + (1 : Int32)))])) _
              exact k
            obtain ⟨fs, hr, hrun, hended, hW, hsame⟩ := X0.leave (v := some (.int (((((1 : Int32) + (1 : Int32)) + (1 : Int32)) + (1 : Int32)) + (1 : Int32)))) (fun h => by rw [Bd.returns] at h; cases h)
            refine ⟨_, _, pre24 _ ?_, hrun, hended, _, _, rfl, ?_, ⟨_, rfl⟩, hW, hsame.mono (by decide) (by decide)⟩
            · exact retOut X0 hx Bd.returns rfl (Or.inl ⟨rfl, by simp, _, rfl⟩) (hb hby d1_25) hr
            · show Q1 Z vv h0 n0 _ s₁.heap _
              rw [e0]
              exact ⟨(by unfold own_len; rw [← hn_r1, own_lenF_s hs1, ← hn_r2, own_lenF_s hs2, ← hn_r3, own_lenF_s hs3, ← hn_r4, own_lenF_s hs4, ← hn_r5, own_lenF_z hs5]), N0, rfl⟩
          · skip
            have pre26 : ∀ t, Steps p.tables e below (s₁.setTop (mkF m 7 #[.val (.long vv), .second, .val (.int ((((((1 : Int32) + (1 : Int32)) + (1 : Int32)) + (1 : Int32)) + (1 : Int32)) + (1 : Int32))), .val (.long (XT.ushrL r5 (7 : Int32))), .second] [])) t → Steps p.tables e below (s₁.setTop (entryFrame m #[(.long vv)] 5)) t := by
              intro t k
              refine pre23 t ?_
              refine XS.ifNo X0.here hx rfl (hb hby d1_10) rfl (XT.ll_eq_f hs5) ?_
              show Steps p.tables e below (s₁.setTop (mkF m 13 #[.val (.long vv), .second, .val (.int (((((1 : Int32) + (1 : Int32)) + (1 : Int32)) + (1 : Int32)) + (1 : Int32))), .val (.long r5), .second] [])) _
              refine XS.iinc X0.here hx rfl (hb hby d1_13) rfl (l' := #[.val (.long vv), .second, .val (.int ((((((1 : Int32) + (1 : Int32)) + (1 : Int32)) + (1 : Int32)) + (1 : Int32)) + (1 : Int32))), .val (.long r5), .second]) rfl ?_
              show Steps p.tables e below (s₁.setTop (mkF m 16 #[.val (.long vv), .second, .val (.int ((((((1 : Int32) + (1 : Int32)) + (1 : Int32)) + (1 : Int32)) + (1 : Int32)) + (1 : Int32))), .val (.long r5), .second] [])) _
              refine XT.lloadN X0.here hx rfl (hb hby d1_16) rfl ?_
              show Steps p.tables e below (s₁.setTop (mkF m 17 #[.val (.long vv), .second, .val (.int ((((((1 : Int32) + (1 : Int32)) + (1 : Int32)) + (1 : Int32)) + (1 : Int32)) + (1 : Int32))), .val (.long r5), .second] [(.long r5)])) _
              refine XS.bipush X0.here hx rfl (hb hby d1_17) ?_
              show Steps p.tables e below (s₁.setTop (mkF m 19 #[.val (.long vv), .second, .val (.int ((((((1 : Int32) + (1 : Int32)) + (1 : Int32)) + (1 : Int32)) + (1 : Int32)) + (1 : Int32))), .val (.long r5), .second] [(.int (7 : Int32)), (.long r5)])) _
              refine XT.lushr X0.here hx rfl (hb hby d1_19) rfl ?_
              show Steps p.tables e below (s₁.setTop (mkF m 20 #[.val (.long vv), .second, .val (.int ((((((1 : Int32) + (1 : Int32)) + (1 : Int32)) + (1 : Int32)) + (1 : Int32)) + (1 : Int32))), .val (.long r5), .second] [(.long (XT.ushrL r5 (7 : Int32)))])) _
              refine XT.lstoreN X0.here hx rfl (hb hby d1_20) rfl (l' := #[.val (.long vv), .second, .val (.int ((((((1 : Int32) + (1 : Int32)) + (1 : Int32)) + (1 : Int32)) + (1 : Int32)) + (1 : Int32))), .val (.long (XT.ushrL r5 (7 : Int32))), .second]) rfl ?_
              show Steps p.tables e below (s₁.setTop (mkF m 21 #[.val (.long vv), .second, .val (.int ((((((1 : Int32) + (1 : Int32)) + (1 : Int32)) + (1 : Int32)) + (1 : Int32)) + (1 : Int32))), .val (.long (XT.ushrL r5 (7 : Int32))), .second] [])) _
              refine XS.goto X0.here hx rfl (pc0 := 21) (pc' := 7) rfl (hb hby d1_21) (by decide) (by decide) ?_
              show Steps p.tables e below (s₁.setTop (mkF m 7 #[.val (.long vv), .second, .val (.int ((((((1 : Int32) + (1 : Int32)) + (1 : Int32)) + (1 : Int32)) + (1 : Int32)) + (1 : Int32))), .val (.long (XT.ushrL r5 (7 : Int32))), .second] [])) _
              exact k
            obtain ⟨r6, hn_r6, pre27⟩ : ∃ r6 : Int64, r6 = (XT.ushrL r5 (7 : Int32)) ∧ ∀ t, Steps p.tables e below (s₁.setTop (mkF m 7 #[.val (.long vv), .second, .val (.int ((((((1 : Int32) + (1 : Int32)) + (1 : Int32)) + (1 : Int32)) + (1 : Int32)) + (1 : Int32))), .val (.long r6), .second] [])) t → Steps p.tables e below (s₁.setTop (entryFrame m #[(.long vv)] 5)) t := ⟨_, rfl, pre26⟩
            have u6 := own_N7 r5
            rw [← hn_r6] at u6
            have pre28 : ∀ t, Steps p.tables e below (s₁.setTop (mkF m 10 #[.val (.long vv), .second, .val (.int ((((((1 : Int32) + (1 : Int32)) + (1 : Int32)) + (1 : Int32)) + (1 : Int32)) + (1 : Int32))), .val (.long r6), .second] [(.int (XT.cmpL r6 (0 : Int64)))])) t → Steps p.tables e below (s₁.setTop (entryFrame m #[(.long vv)] 5)) t := by
              intro t k
              refine pre27 t ?_
              refine XT.lloadN X0.here hx rfl (hb hby d1_7) rfl ?_
              show Steps p.tables e below (s₁.setTop (mkF m 8 #[.val (.long vv), .second, .val (.int ((((((1 : Int32) + (1 : Int32)) + (1 : Int32)) + (1 : Int32)) + (1 : Int32)) + (1 : Int32))), .val (.long r6), .second] [(.long r6)])) _
              refine XT.lconst X0.here hx rfl (hb hby d1_8) ?_
              show Steps p.tables e below (s₁.setTop (mkF m 9 #[.val (.long vv), .second, .val (.int ((((((1 : Int32) + (1 : Int32)) + (1 : Int32)) + (1 : Int32)) + (1 : Int32)) + (1 : Int32))), .val (.long r6), .second] [(.long (0 : Int64)), (.long r6)])) _
              refine XT.lcmp X0.here hx rfl (hb hby d1_9) rfl ?_
              show Steps p.tables e below (s₁.setTop (mkF m 10 #[.val (.long vv), .second, .val (.int ((((((1 : Int32) + (1 : Int32)) + (1 : Int32)) + (1 : Int32)) + (1 : Int32)) + (1 : Int32))), .val (.long r6), .second] [(.int (XT.cmpL r6 (0 : Int64)))])) _
              exact k
            by_cases hs6 : r6 = (0 : Int64)
            · skip
              have pre29 : ∀ t, Steps p.tables e below (s₁.setTop (mkF m 25 #[.val (.long vv), .second, .val (.int ((((((1 : Int32) + (1 : Int32)) + (1 : Int32)) + (1 : Int32)) + (1 : Int32)) + (1 : Int32))), .val (.long r6), .second] [(.int ((((((1 : Int32) + (1 : Int32)) + (1 : Int32)) + (1 : Int32)) + (1 : Int32)) + (1 : Int32)))])) t → Steps p.tables e below (s₁.setTop (entryFrame m #[(.long vv)] 5)) t := by
                intro t k
                refine pre28 t ?_
                refine XS.ifYes X0.here hx rfl (pc0 := 10) (pc' := 24) rfl (hb hby d1_10) rfl (XT.ll_eq_t hs6) (by decide) (by decide) ?_
                show Steps p.tables e below (s₁.setTop (mkF m 24 #[.val (.long vv), .second, .val (.int ((((((1 : Int32) + (1 : Int32)) + (1 : Int32)) + (1 : Int32)) + (1 : Int32)) + (1 : Int32))), .val (.long r6), .second] [])) _
                refine XS.iloadN X0.here hx rfl (hb hby d1_24) rfl ?_
                show Steps p.tables e below (s₁.setTop (mkF m 25 #[.val (.long vv), .second, .val (.int ((((((1 : Int32) + (1 : Int32)) + (1 : Int32)) + (1 : Int32)) + (1 : Int32)) + (1 : Int32))), .val (.long r6), .second] [(.int ((((((1 : Int32) + (1 : Int32)) + (1 : Int32)) + (1 : Int32)) + (1 : Int32)) + (1 : Int32)))])) _
                exact k
              obtain ⟨fs, hr, hrun, hended, hW, hsame⟩ := X0.leave (v := some (.int ((((((1 : Int32) + (1 : Int32)) + (1 : Int32)) + (1 : Int32)) + (1 : Int32)) + (1 : Int32)))) (fun h => by rw [Bd.returns] at h; cases h)
              refine ⟨_, _, pre29 _ ?_, hrun, hended, _, _, rfl, ?_, ⟨_, rfl⟩, hW, hsame.mono (by decide) (by decide)⟩
              · exact retOut X0 hx Bd.returns rfl (Or.inl ⟨rfl, by simp, _, rfl⟩) (hb hby d1_25) hr
              · show Q1 Z vv h0 n0 _ s₁.heap _
                rw [e0]
                exact ⟨(by unfold own_len; rw [← hn_r1, own_lenF_s hs1, ← hn_r2, own_lenF_s hs2, ← hn_r3, own_lenF_s hs3, ← hn_r4, own_lenF_s hs4, ← hn_r5, own_lenF_s hs5, ← hn_r6, own_lenF_z hs6]), N0, rfl⟩
            · skip
              have pre31 : ∀ t, Steps p.tables e below (s₁.setTop (mkF m 7 #[.val (.long vv), .second, .val (.int (((((((1 : Int32) + (1 : Int32)) + (1 : Int32)) + (1 : Int32)) + (1 : Int32)) + (1 : Int32)) + (1 : Int32))), .val (.long (XT.ushrL r6 (7 : Int32))), .second] [])) t → Steps p.tables e below (s₁.setTop (entryFrame m #[(.long vv)] 5)) t := by
                intro t k
                refine pre28 t ?_
                refine XS.ifNo X0.here hx rfl (hb hby d1_10) rfl (XT.ll_eq_f hs6) ?_
                show Steps p.tables e below (s₁.setTop (mkF m 13 #[.val (.long vv), .second, .val (.int ((((((1 : Int32) + (1 : Int32)) + (1 : Int32)) + (1 : Int32)) + (1 : Int32)) + (1 : Int32))), .val (.long r6), .second] [])) _
                refine XS.iinc X0.here hx rfl (hb hby d1_13) rfl (l' := #[.val (.long vv), .second, .val (.int (((((((1 : Int32) + (1 : Int32)) + (1 : Int32)) + (1 : Int32)) + (1 : Int32)) + (1 : Int32)) + (1 : Int32))), .val (.long r6), .second]) rfl ?_
                show Steps p.tables e below (s₁.setTop (mkF m 16 #[.val (.long vv), .second, .val (.int (((((((1 : Int32) + (1 : Int32)) + (1 : Int32)) + (1 : Int32)) + (1 : Int32)) + (1 : Int32)) + (1 : Int32))), .val (.long r6), .second] [])) _
                refine XT.lloadN X0.here hx rfl (hb hby d1_16) rfl ?_
                show Steps p.tables e below (s₁.setTop (mkF m 17 #[.val (.long vv), .second, .val (.int (((((((1 : Int32) + (1 : Int32)) + (1 : Int32)) + (1 : Int32)) + (1 : Int32)) + (1 : Int32)) + (1 : Int32))), .val (.long r6), .second] [(.long r6)])) _
                refine XS.bipush X0.here hx rfl (hb hby d1_17) ?_
                show Steps p.tables e below (s₁.setTop (mkF m 19 #[.val (.long vv), .second, .val (.int (((((((1 : Int32) + (1 : Int32)) + (1 : Int32)) + (1 : Int32)) + (1 : Int32)) + (1 : Int32)) + (1 : Int32))), .val (.long r6), .second] [(.int (7 : Int32)), (.long r6)])) _
                refine XT.lushr X0.here hx rfl (hb hby d1_19) rfl ?_
                show Steps p.tables e below (s₁.setTop (mkF m 20 #[.val (.long vv), .second, .val (.int (((((((1 : Int32) + (1 : Int32)) + (1 : Int32)) + (1 : Int32)) + (1 : Int32)) + (1 : Int32)) + (1 : Int32))), .val (.long r6), .second] [(.long (XT.ushrL r6 (7 : Int32)))])) _
                refine XT.lstoreN X0.here hx rfl (hb hby d1_20) rfl (l' := #[.val (.long vv), .second, .val (.int (((((((1 : Int32) + (1 : Int32)) + (1 : Int32)) + (1 : Int32)) + (1 : Int32)) + (1 : Int32)) + (1 : Int32))), .val (.long (XT.ushrL r6 (7 : Int32))), .second]) rfl ?_
                show Steps p.tables e below (s₁.setTop (mkF m 21 #[.val (.long vv), .second, .val (.int (((((((1 : Int32) + (1 : Int32)) + (1 : Int32)) + (1 : Int32)) + (1 : Int32)) + (1 : Int32)) + (1 : Int32))), .val (.long (XT.ushrL r6 (7 : Int32))), .second] [])) _
                refine XS.goto X0.here hx rfl (pc0 := 21) (pc' := 7) rfl (hb hby d1_21) (by decide) (by decide) ?_
                show Steps p.tables e below (s₁.setTop (mkF m 7 #[.val (.long vv), .second, .val (.int (((((((1 : Int32) + (1 : Int32)) + (1 : Int32)) + (1 : Int32)) + (1 : Int32)) + (1 : Int32)) + (1 : Int32))), .val (.long (XT.ushrL r6 (7 : Int32))), .second] [])) _
                exact k
              obtain ⟨r7, hn_r7, pre32⟩ : ∃ r7 : Int64, r7 = (XT.ushrL r6 (7 : Int32)) ∧ ∀ t, Steps p.tables e below (s₁.setTop (mkF m 7 #[.val (.long vv), .second, .val (.int (((((((1 : Int32) + (1 : Int32)) + (1 : Int32)) + (1 : Int32)) + (1 : Int32)) + (1 : Int32)) + (1 : Int32))), .val (.long r7), .second] [])) t → Steps p.tables e below (s₁.setTop (entryFrame m #[(.long vv)] 5)) t := ⟨_, rfl, pre31⟩
              have u7 := own_N7 r6
              rw [← hn_r7] at u7
              have pre33 : ∀ t, Steps p.tables e below (s₁.setTop (mkF m 10 #[.val (.long vv), .second, .val (.int (((((((1 : Int32) + (1 : Int32)) + (1 : Int32)) + (1 : Int32)) + (1 : Int32)) + (1 : Int32)) + (1 : Int32))), .val (.long r7), .second] [(.int (XT.cmpL r7 (0 : Int64)))])) t → Steps p.tables e below (s₁.setTop (entryFrame m #[(.long vv)] 5)) t := by
                intro t k
                refine pre32 t ?_
                refine XT.lloadN X0.here hx rfl (hb hby d1_7) rfl ?_
                show Steps p.tables e below (s₁.setTop (mkF m 8 #[.val (.long vv), .second, .val (.int (((((((1 : Int32) + (1 : Int32)) + (1 : Int32)) + (1 : Int32)) + (1 : Int32)) + (1 : Int32)) + (1 : Int32))), .val (.long r7), .second] [(.long r7)])) _
                refine XT.lconst X0.here hx rfl (hb hby d1_8) ?_
                show Steps p.tables e below (s₁.setTop (mkF m 9 #[.val (.long vv), .second, .val (.int (((((((1 : Int32) + (1 : Int32)) + (1 : Int32)) + (1 : Int32)) + (1 : Int32)) + (1 : Int32)) + (1 : Int32))), .val (.long r7), .second] [(.long (0 : Int64)), (.long r7)])) _
                refine XT.lcmp X0.here hx rfl (hb hby d1_9) rfl ?_
                show Steps p.tables e below (s₁.setTop (mkF m 10 #[.val (.long vv), .second, .val (.int (((((((1 : Int32) + (1 : Int32)) + (1 : Int32)) + (1 : Int32)) + (1 : Int32)) + (1 : Int32)) + (1 : Int32))), .val (.long r7), .second] [(.int (XT.cmpL r7 (0 : Int64)))])) _
                exact k
              by_cases hs7 : r7 = (0 : Int64)
              · skip
                have pre34 : ∀ t, Steps p.tables e below (s₁.setTop (mkF m 25 #[.val (.long vv), .second, .val (.int (((((((1 : Int32) + (1 : Int32)) + (1 : Int32)) + (1 : Int32)) + (1 : Int32)) + (1 : Int32)) + (1 : Int32))), .val (.long r7), .second] [(.int (((((((1 : Int32) + (1 : Int32)) + (1 : Int32)) + (1 : Int32)) + (1 : Int32)) + (1 : Int32)) + (1 : Int32)))])) t → Steps p.tables e below (s₁.setTop (entryFrame m #[(.long vv)] 5)) t := by
                  intro t k
                  refine pre33 t ?_
                  refine XS.ifYes X0.here hx rfl (pc0 := 10) (pc' := 24) rfl (hb hby d1_10) rfl (XT.ll_eq_t hs7) (by decide) (by decide) ?_
                  show Steps p.tables e below (s₁.setTop (mkF m 24 #[.val (.long vv), .second, .val (.int (((((((1 : Int32) + (1 : Int32)) + (1 : Int32)) + (1 : Int32)) + (1 : Int32)) + (1 : Int32)) + (1 : Int32))), .val (.long r7), .second] [])) _
                  refine XS.iloadN X0.here hx rfl (hb hby d1_24) rfl ?_
                  show Steps p.tables e below (s₁.setTop (mkF m 25 #[.val (.long vv), .second, .val (.int (((((((1 : Int32) + (1 : Int32)) + (1 : Int32)) + (1 : Int32)) + (1 : Int32)) + (1 : Int32)) + (1 : Int32))), .val (.long r7), .second] [(.int (((((((1 : Int32) + (1 : Int32)) + (1 : Int32)) + (1 : Int32)) + (1 : Int32)) + (1 : Int32)) + (1 : Int32)))])) _
                  exact k
                obtain ⟨fs, hr, hrun, hended, hW, hsame⟩ := X0.leave (v := some (.int (((((((1 : Int32) + (1 : Int32)) + (1 : Int32)) + (1 : Int32)) + (1 : Int32)) + (1 : Int32)) + (1 : Int32)))) (fun h => by rw [Bd.returns] at h; cases h)
                refine ⟨_, _, pre34 _ ?_, hrun, hended, _, _, rfl, ?_, ⟨_, rfl⟩, hW, hsame.mono (by decide) (by decide)⟩
                · exact retOut X0 hx Bd.returns rfl (Or.inl ⟨rfl, by simp, _, rfl⟩) (hb hby d1_25) hr
                · show Q1 Z vv h0 n0 _ s₁.heap _
                  rw [e0]
                  exact ⟨(by unfold own_len; rw [← hn_r1, own_lenF_s hs1, ← hn_r2, own_lenF_s hs2, ← hn_r3, own_lenF_s hs3, ← hn_r4, own_lenF_s hs4, ← hn_r5, own_lenF_s hs5, ← hn_r6, own_lenF_s hs6, ← hn_r7, own_lenF_z hs7]), N0, rfl⟩
              · skip
                have pre36 : ∀ t, Steps p.tables e below (s₁.setTop (mkF m 7 #[.val (.long vv), .second, .val (.int ((((((((1 : Int32) + (1 : Int32)) + (1 : Int32)) + (1 : Int32)) + (1 : Int32)) + (1 : Int32)) + (1 : Int32)) + (1 : Int32))), .val (.long (XT.ushrL r7 (7 : Int32))), .second] [])) t → Steps p.tables e below (s₁.setTop (entryFrame m #[(.long vv)] 5)) t := by
                  intro t k
                  refine pre33 t ?_
                  refine XS.ifNo X0.here hx rfl (hb hby d1_10) rfl (XT.ll_eq_f hs7) ?_
                  show Steps p.tables e below (s₁.setTop (mkF m 13 #[.val (.long vv), .second, .val (.int (((((((1 : Int32) + (1 : Int32)) + (1 : Int32)) + (1 : Int32)) + (1 : Int32)) + (1 : Int32)) + (1 : Int32))), .val (.long r7), .second] [])) _
                  refine XS.iinc X0.here hx rfl (hb hby d1_13) rfl (l' := #[.val (.long vv), .second, .val (.int ((((((((1 : Int32) + (1 : Int32)) + (1 : Int32)) + (1 : Int32)) + (1 : Int32)) + (1 : Int32)) + (1 : Int32)) + (1 : Int32))), .val (.long r7), .second]) rfl ?_
                  show Steps p.tables e below (s₁.setTop (mkF m 16 #[.val (.long vv), .second, .val (.int ((((((((1 : Int32) + (1 : Int32)) + (1 : Int32)) + (1 : Int32)) + (1 : Int32)) + (1 : Int32)) + (1 : Int32)) + (1 : Int32))), .val (.long r7), .second] [])) _
                  refine XT.lloadN X0.here hx rfl (hb hby d1_16) rfl ?_
                  show Steps p.tables e below (s₁.setTop (mkF m 17 #[.val (.long vv), .second, .val (.int ((((((((1 : Int32) + (1 : Int32)) + (1 : Int32)) + (1 : Int32)) + (1 : Int32)) + (1 : Int32)) + (1 : Int32)) + (1 : Int32))), .val (.long r7), .second] [(.long r7)])) _
                  refine XS.bipush X0.here hx rfl (hb hby d1_17) ?_
                  show Steps p.tables e below (s₁.setTop (mkF m 19 #[.val (.long vv), .second, .val (.int ((((((((1 : Int32) + (1 : Int32)) + (1 : Int32)) + (1 : Int32)) + (1 : Int32)) + (1 : Int32)) + (1 : Int32)) + (1 : Int32))), .val (.long r7), .second] [(.int (7 : Int32)), (.long r7)])) _
                  refine XT.lushr X0.here hx rfl (hb hby d1_19) rfl ?_
                  show Steps p.tables e below (s₁.setTop (mkF m 20 #[.val (.long vv), .second, .val (.int ((((((((1 : Int32) + (1 : Int32)) + (1 : Int32)) + (1 : Int32)) + (1 : Int32)) + (1 : Int32)) + (1 : Int32)) + (1 : Int32))), .val (.long r7), .second] [(.long (XT.ushrL r7 (7 : Int32)))])) _
                  refine XT.lstoreN X0.here hx rfl (hb hby d1_20) rfl (l' := #[.val (.long vv), .second, .val (.int ((((((((1 : Int32) + (1 : Int32)) + (1 : Int32)) + (1 : Int32)) + (1 : Int32)) + (1 : Int32)) + (1 : Int32)) + (1 : Int32))), .val (.long (XT.ushrL r7 (7 : Int32))), .second]) rfl ?_
                  show Steps p.tables e below (s₁.setTop (mkF m 21 #[.val (.long vv), .second, .val (.int ((((((((1 : Int32) + (1 : Int32)) + (1 : Int32)) + (1 : Int32)) + (1 : Int32)) + (1 : Int32)) + (1 : Int32)) + (1 : Int32))), .val (.long (XT.ushrL r7 (7 : Int32))), .second] [])) _
                  refine XS.goto X0.here hx rfl (pc0 := 21) (pc' := 7) rfl (hb hby d1_21) (by decide) (by decide) ?_
                  show Steps p.tables e below (s₁.setTop (mkF m 7 #[.val (.long vv), .second, .val (.int ((((((((1 : Int32) + (1 : Int32)) + (1 : Int32)) + (1 : Int32)) + (1 : Int32)) + (1 : Int32)) + (1 : Int32)) + (1 : Int32))), .val (.long (XT.ushrL r7 (7 : Int32))), .second] [])) _
                  exact k
                obtain ⟨r8, hn_r8, pre37⟩ : ∃ r8 : Int64, r8 = (XT.ushrL r7 (7 : Int32)) ∧ ∀ t, Steps p.tables e below (s₁.setTop (mkF m 7 #[.val (.long vv), .second, .val (.int ((((((((1 : Int32) + (1 : Int32)) + (1 : Int32)) + (1 : Int32)) + (1 : Int32)) + (1 : Int32)) + (1 : Int32)) + (1 : Int32))), .val (.long r8), .second] [])) t → Steps p.tables e below (s₁.setTop (entryFrame m #[(.long vv)] 5)) t := ⟨_, rfl, pre36⟩
                have u8 := own_N7 r7
                rw [← hn_r8] at u8
                have pre38 : ∀ t, Steps p.tables e below (s₁.setTop (mkF m 10 #[.val (.long vv), .second, .val (.int ((((((((1 : Int32) + (1 : Int32)) + (1 : Int32)) + (1 : Int32)) + (1 : Int32)) + (1 : Int32)) + (1 : Int32)) + (1 : Int32))), .val (.long r8), .second] [(.int (XT.cmpL r8 (0 : Int64)))])) t → Steps p.tables e below (s₁.setTop (entryFrame m #[(.long vv)] 5)) t := by
                  intro t k
                  refine pre37 t ?_
                  refine XT.lloadN X0.here hx rfl (hb hby d1_7) rfl ?_
                  show Steps p.tables e below (s₁.setTop (mkF m 8 #[.val (.long vv), .second, .val (.int ((((((((1 : Int32) + (1 : Int32)) + (1 : Int32)) + (1 : Int32)) + (1 : Int32)) + (1 : Int32)) + (1 : Int32)) + (1 : Int32))), .val (.long r8), .second] [(.long r8)])) _
                  refine XT.lconst X0.here hx rfl (hb hby d1_8) ?_
                  show Steps p.tables e below (s₁.setTop (mkF m 9 #[.val (.long vv), .second, .val (.int ((((((((1 : Int32) + (1 : Int32)) + (1 : Int32)) + (1 : Int32)) + (1 : Int32)) + (1 : Int32)) + (1 : Int32)) + (1 : Int32))), .val (.long r8), .second] [(.long (0 : Int64)), (.long r8)])) _
                  refine XT.lcmp X0.here hx rfl (hb hby d1_9) rfl ?_
                  show Steps p.tables e below (s₁.setTop (mkF m 10 #[.val (.long vv), .second, .val (.int ((((((((1 : Int32) + (1 : Int32)) + (1 : Int32)) + (1 : Int32)) + (1 : Int32)) + (1 : Int32)) + (1 : Int32)) + (1 : Int32))), .val (.long r8), .second] [(.int (XT.cmpL r8 (0 : Int64)))])) _
                  exact k
                by_cases hs8 : r8 = (0 : Int64)
                · skip
                  have pre39 : ∀ t, Steps p.tables e below (s₁.setTop (mkF m 25 #[.val (.long vv), .second, .val (.int ((((((((1 : Int32) + (1 : Int32)) + (1 : Int32)) + (1 : Int32)) + (1 : Int32)) + (1 : Int32)) + (1 : Int32)) + (1 : Int32))), .val (.long r8), .second] [(.int ((((((((1 : Int32) + (1 : Int32)) + (1 : Int32)) + (1 : Int32)) + (1 : Int32)) + (1 : Int32)) + (1 : Int32)) + (1 : Int32)))])) t → Steps p.tables e below (s₁.setTop (entryFrame m #[(.long vv)] 5)) t := by
                    intro t k
                    refine pre38 t ?_
                    refine XS.ifYes X0.here hx rfl (pc0 := 10) (pc' := 24) rfl (hb hby d1_10) rfl (XT.ll_eq_t hs8) (by decide) (by decide) ?_
                    show Steps p.tables e below (s₁.setTop (mkF m 24 #[.val (.long vv), .second, .val (.int ((((((((1 : Int32) + (1 : Int32)) + (1 : Int32)) + (1 : Int32)) + (1 : Int32)) + (1 : Int32)) + (1 : Int32)) + (1 : Int32))), .val (.long r8), .second] [])) _
                    refine XS.iloadN X0.here hx rfl (hb hby d1_24) rfl ?_
                    show Steps p.tables e below (s₁.setTop (mkF m 25 #[.val (.long vv), .second, .val (.int ((((((((1 : Int32) + (1 : Int32)) + (1 : Int32)) + (1 : Int32)) + (1 : Int32)) + (1 : Int32)) + (1 : Int32)) + (1 : Int32))), .val (.long r8), .second] [(.int ((((((((1 : Int32) + (1 : Int32)) + (1 : Int32)) + (1 : Int32)) + (1 : Int32)) + (1 : Int32)) + (1 : Int32)) + (1 : Int32)))])) _
                    exact k
                  obtain ⟨fs, hr, hrun, hended, hW, hsame⟩ := X0.leave (v := some (.int ((((((((1 : Int32) + (1 : Int32)) + (1 : Int32)) + (1 : Int32)) + (1 : Int32)) + (1 : Int32)) + (1 : Int32)) + (1 : Int32)))) (fun h => by rw [Bd.returns] at h; cases h)
                  refine ⟨_, _, pre39 _ ?_, hrun, hended, _, _, rfl, ?_, ⟨_, rfl⟩, hW, hsame.mono (by decide) (by decide)⟩
                  · exact retOut X0 hx Bd.returns rfl (Or.inl ⟨rfl, by simp, _, rfl⟩) (hb hby d1_25) hr
                  · show Q1 Z vv h0 n0 _ s₁.heap _
                    rw [e0]
                    exact ⟨(by unfold own_len; rw [← hn_r1, own_lenF_s hs1, ← hn_r2, own_lenF_s hs2, ← hn_r3, own_lenF_s hs3, ← hn_r4, own_lenF_s hs4, ← hn_r5, own_lenF_s hs5, ← hn_r6, own_lenF_s hs6, ← hn_r7, own_lenF_s hs7, ← hn_r8, own_lenF_z hs8]), N0, rfl⟩
                · skip
                  have pre41 : ∀ t, Steps p.tables e below (s₁.setTop (mkF m 7 #[.val (.long vv), .second, .val (.int (((((((((1 : Int32) + (1 : Int32)) + (1 : Int32)) + (1 : Int32)) + (1 : Int32)) + (1 : Int32)) + (1 : Int32)) + (1 : Int32)) + (1 : Int32))), .val (.long (XT.ushrL r8 (7 : Int32))), .second] [])) t → Steps p.tables e below (s₁.setTop (entryFrame m #[(.long vv)] 5)) t := by
                    intro t k
                    refine pre38 t ?_
                    refine XS.ifNo X0.here hx rfl (hb hby d1_10) rfl (XT.ll_eq_f hs8) ?_
                    show Steps p.tables e below (s₁.setTop (mkF m 13 #[.val (.long vv), .second, .val (.int ((((((((1 : Int32) + (1 : Int32)) + (1 : Int32)) + (1 : Int32)) + (1 : Int32)) + (1 : Int32)) + (1 : Int32)) + (1 : Int32))), .val (.long r8), .second] [])) _
                    refine XS.iinc X0.here hx rfl (hb hby d1_13) rfl (l' := #[.val (.long vv), .second, .val (.int (((((((((1 : Int32) + (1 : Int32)) + (1 : Int32)) + (1 : Int32)) + (1 : Int32)) + (1 : Int32)) + (1 : Int32)) + (1 : Int32)) + (1 : Int32))), .val (.long r8), .second]) rfl ?_
                    show Steps p.tables e below (s₁.setTop (mkF m 16 #[.val (.long vv), .second, .val (.int (((((((((1 : Int32) + (1 : Int32)) + (1 : Int32)) + (1 : Int32)) + (1 : Int32)) + (1 : Int32)) + (1 : Int32)) + (1 : Int32)) + (1 : Int32))), .val (.long r8), .second] [])) _
                    refine XT.lloadN X0.here hx rfl (hb hby d1_16) rfl ?_
                    show Steps p.tables e below (s₁.setTop (mkF m 17 #[.val (.long vv), .second, .val (.int (((((((((1 : Int32) + (1 : Int32)) + (1 : Int32)) + (1 : Int32)) + (1 : Int32)) + (1 : Int32)) + (1 : Int32)) + (1 : Int32)) + (1 : Int32))), .val (.long r8), .second] [(.long r8)])) _
                    refine XS.bipush X0.here hx rfl (hb hby d1_17) ?_
                    show Steps p.tables e below (s₁.setTop (mkF m 19 #[.val (.long vv), .second, .val (.int (((((((((1 : Int32) + (1 : Int32)) + (1 : Int32)) + (1 : Int32)) + (1 : Int32)) + (1 : Int32)) + (1 : Int32)) + (1 : Int32)) + (1 : Int32))), .val (.long r8), .second] [(.int (7 : Int32)), (.long r8)])) _
                    refine XT.lushr X0.here hx rfl (hb hby d1_19) rfl ?_
                    show Steps p.tables e below (s₁.setTop (mkF m 20 #[.val (.long vv), .second, .val (.int (((((((((1 : Int32) + (1 : Int32)) + (1 : Int32)) + (1 : Int32)) + (1 : Int32)) + (1 : Int32)) + (1 : Int32)) + (1 : Int32)) + (1 : Int32))), .val (.long r8), .second] [(.long (XT.ushrL r8 (7 : Int32)))])) _
                    refine XT.lstoreN X0.here hx rfl (hb hby d1_20) rfl (l' := #[.val (.long vv), .second, .val (.int (((((((((1 : Int32) + (1 : Int32)) + (1 : Int32)) + (1 : Int32)) + (1 : Int32)) + (1 : Int32)) + (1 : Int32)) + (1 : Int32)) + (1 : Int32))), .val (.long (XT.ushrL r8 (7 : Int32))), .second]) rfl ?_
                    show Steps p.tables e below (s₁.setTop (mkF m 21 #[.val (.long vv), .second, .val (.int (((((((((1 : Int32) + (1 : Int32)) + (1 : Int32)) + (1 : Int32)) + (1 : Int32)) + (1 : Int32)) + (1 : Int32)) + (1 : Int32)) + (1 : Int32))), .val (.long (XT.ushrL r8 (7 : Int32))), .second] [])) _
                    refine XS.goto X0.here hx rfl (pc0 := 21) (pc' := 7) rfl (hb hby d1_21) (by decide) (by decide) ?_
                    show Steps p.tables e below (s₁.setTop (mkF m 7 #[.val (.long vv), .second, .val (.int (((((((((1 : Int32) + (1 : Int32)) + (1 : Int32)) + (1 : Int32)) + (1 : Int32)) + (1 : Int32)) + (1 : Int32)) + (1 : Int32)) + (1 : Int32))), .val (.long (XT.ushrL r8 (7 : Int32))), .second] [])) _
                    exact k
                  obtain ⟨r9, hn_r9, pre42⟩ : ∃ r9 : Int64, r9 = (XT.ushrL r8 (7 : Int32)) ∧ ∀ t, Steps p.tables e below (s₁.setTop (mkF m 7 #[.val (.long vv), .second, .val (.int (((((((((1 : Int32) + (1 : Int32)) + (1 : Int32)) + (1 : Int32)) + (1 : Int32)) + (1 : Int32)) + (1 : Int32)) + (1 : Int32)) + (1 : Int32))), .val (.long r9), .second] [])) t → Steps p.tables e below (s₁.setTop (entryFrame m #[(.long vv)] 5)) t := ⟨_, rfl, pre41⟩
                  have u9 := own_N7 r8
                  rw [← hn_r9] at u9
                  have pre43 : ∀ t, Steps p.tables e below (s₁.setTop (mkF m 10 #[.val (.long vv), .second, .val (.int (((((((((1 : Int32) + (1 : Int32)) + (1 : Int32)) + (1 : Int32)) + (1 : Int32)) + (1 : Int32)) + (1 : Int32)) + (1 : Int32)) + (1 : Int32))), .val (.long r9), .second] [(.int (XT.cmpL r9 (0 : Int64)))])) t → Steps p.tables e below (s₁.setTop (entryFrame m #[(.long vv)] 5)) t := by
                    intro t k
                    refine pre42 t ?_
                    refine XT.lloadN X0.here hx rfl (hb hby d1_7) rfl ?_
                    show Steps p.tables e below (s₁.setTop (mkF m 8 #[.val (.long vv), .second, .val (.int (((((((((1 : Int32) + (1 : Int32)) + (1 : Int32)) + (1 : Int32)) + (1 : Int32)) + (1 : Int32)) + (1 : Int32)) + (1 : Int32)) + (1 : Int32))), .val (.long r9), .second] [(.long r9)])) _
                    refine XT.lconst X0.here hx rfl (hb hby d1_8) ?_
                    show Steps p.tables e below (s₁.setTop (mkF m 9 #[.val (.long vv), .second, .val (.int (((((((((1 : Int32) + (1 : Int32)) + (1 : Int32)) + (1 : Int32)) + (1 : Int32)) + (1 : Int32)) + (1 : Int32)) + (1 : Int32)) + (1 : Int32))), .val (.long r9), .second] [(.long (0 : Int64)), (.long r9)])) _
                    refine XT.lcmp X0.here hx rfl (hb hby d1_9) rfl ?_
                    show Steps p.tables e below (s₁.setTop (mkF m 10 #[.val (.long vv), .second, .val (.int (((((((((1 : Int32) + (1 : Int32)) + (1 : Int32)) + (1 : Int32)) + (1 : Int32)) + (1 : Int32)) + (1 : Int32)) + (1 : Int32)) + (1 : Int32))), .val (.long r9), .second] [(.int (XT.cmpL r9 (0 : Int64)))])) _
                    exact k
                  by_cases hs9 : r9 = (0 : Int64)
                  · skip
                    have pre44 : ∀ t, Steps p.tables e below (s₁.setTop (mkF m 25 #[.val (.long vv), .second, .val (.int (((((((((1 : Int32) + (1 : Int32)) + (1 : Int32)) + (1 : Int32)) + (1 : Int32)) + (1 : Int32)) + (1 : Int32)) + (1 : Int32)) + (1 : Int32))), .val (.long r9), .second] [(.int (((((((((1 : Int32) + (1 : Int32)) + (1 : Int32)) + (1 : Int32)) + (1 : Int32)) + (1 : Int32)) + (1 : Int32)) + (1 : Int32)) + (1 : Int32)))])) t → Steps p.tables e below (s₁.setTop (entryFrame m #[(.long vv)] 5)) t := by
                      intro t k
                      refine pre43 t ?_
                      refine XS.ifYes X0.here hx rfl (pc0 := 10) (pc' := 24) rfl (hb hby d1_10) rfl (XT.ll_eq_t hs9) (by decide) (by decide) ?_
                      show Steps p.tables e below (s₁.setTop (mkF m 24 #[.val (.long vv), .second, .val (.int (((((((((1 : Int32) + (1 : Int32)) + (1 : Int32)) + (1 : Int32)) + (1 : Int32)) + (1 : Int32)) + (1 : Int32)) + (1 : Int32)) + (1 : Int32))), .val (.long r9), .second] [])) _
                      refine XS.iloadN X0.here hx rfl (hb hby d1_24) rfl ?_
                      show Steps p.tables e below (s₁.setTop (mkF m 25 #[.val (.long vv), .second, .val (.int (((((((((1 : Int32) + (1 : Int32)) + (1 : Int32)) + (1 : Int32)) + (1 : Int32)) + (1 : Int32)) + (1 : Int32)) + (1 : Int32)) + (1 : Int32))), .val (.long r9), .second] [(.int (((((((((1 : Int32) + (1 : Int32)) + (1 : Int32)) + (1 : Int32)) + (1 : Int32)) + (1 : Int32)) + (1 : Int32)) + (1 : Int32)) + (1 : Int32)))])) _
                      exact k
                    obtain ⟨fs, hr, hrun, hended, hW, hsame⟩ := X0.leave (v := some (.int (((((((((1 : Int32) + (1 : Int32)) + (1 : Int32)) + (1 : Int32)) + (1 : Int32)) + (1 : Int32)) + (1 : Int32)) + (1 : Int32)) + (1 : Int32)))) (fun h => by rw [Bd.returns] at h; cases h)
                    refine ⟨_, _, pre44 _ ?_, hrun, hended, _, _, rfl, ?_, ⟨_, rfl⟩, hW, hsame.mono (by decide) (by decide)⟩
                    · exact retOut X0 hx Bd.returns rfl (Or.inl ⟨rfl, by simp, _, rfl⟩) (hb hby d1_25) hr
                    · show Q1 Z vv h0 n0 _ s₁.heap _
                      rw [e0]
                      exact ⟨(by unfold own_len; rw [← hn_r1, own_lenF_s hs1, ← hn_r2, own_lenF_s hs2, ← hn_r3, own_lenF_s hs3, ← hn_r4, own_lenF_s hs4, ← hn_r5, own_lenF_s hs5, ← hn_r6, own_lenF_s hs6, ← hn_r7, own_lenF_s hs7, ← hn_r8, own_lenF_s hs8, ← hn_r9, own_lenF_z hs9]), N0, rfl⟩
                  · skip
                    have pre46 : ∀ t, Steps p.tables e below (s₁.setTop (mkF m 7 #[.val (.long vv), .second, .val (.int ((((((((((1 : Int32) + (1 : Int32)) + (1 : Int32)) + (1 : Int32)) + (1 : Int32)) + (1 : Int32)) + (1 : Int32)) + (1 : Int32)) + (1 : Int32)) + (1 : Int32))), .val (.long (XT.ushrL r9 (7 : Int32))), .second] [])) t → Steps p.tables e below (s₁.setTop (entryFrame m #[(.long vv)] 5)) t := by
                      intro t k
                      refine pre43 t ?_
                      refine XS.ifNo X0.here hx rfl (hb hby d1_10) rfl (XT.ll_eq_f hs9) ?_
                      show Steps p.tables e below (s₁.setTop (mkF m 13 #[.val (.long vv), .second, .val (.int (((((((((1 : Int32) + (1 : Int32)) + (1 : Int32)) + (1 : Int32)) + (1 : Int32)) + (1 : Int32)) + (1 : Int32)) + (1 : Int32)) + (1 : Int32))), .val (.long r9), .second] [])) _
                      refine XS.iinc X0.here hx rfl (hb hby d1_13) rfl (l' := #[.val (.long vv), .second, .val (.int ((((((((((1 : Int32) + (1 : Int32)) + (1 : Int32)) + (1 : Int32)) + (1 : Int32)) + (1 : Int32)) + (1 : Int32)) + (1 : Int32)) + (1 : Int32)) + (1 : Int32))), .val (.long r9), .second]) rfl ?_
                      show Steps p.tables e below (s₁.setTop (mkF m 16 #[.val (.long vv), .second, .val (.int ((((((((((1 : Int32) + (1 : Int32)) + (1 : Int32)) + (1 : Int32)) + (1 : Int32)) + (1 : Int32)) + (1 : Int32)) + (1 : Int32)) + (1 : Int32)) + (1 : Int32))), .val (.long r9), .second] [])) _
                      refine XT.lloadN X0.here hx rfl (hb hby d1_16) rfl ?_
                      show Steps p.tables e below (s₁.setTop (mkF m 17 #[.val (.long vv), .second, .val (.int ((((((((((1 : Int32) + (1 : Int32)) + (1 : Int32)) + (1 : Int32)) + (1 : Int32)) + (1 : Int32)) + (1 : Int32)) + (1 : Int32)) + (1 : Int32)) + (1 : Int32))), .val (.long r9), .second] [(.long r9)])) _
                      refine XS.bipush X0.here hx rfl (hb hby d1_17) ?_
                      show Steps p.tables e below (s₁.setTop (mkF m 19 #[.val (.long vv), .second, .val (.int ((((((((((1 : Int32) + (1 : Int32)) + (1 : Int32)) + (1 : Int32)) + (1 : Int32)) + (1 : Int32)) + (1 : Int32)) + (1 : Int32)) + (1 : Int32)) + (1 : Int32))), .val (.long r9), .second] [(.int (7 : Int32)), (.long r9)])) _
                      refine XT.lushr X0.here hx rfl (hb hby d1_19) rfl ?_
                      show Steps p.tables e below (s₁.setTop (mkF m 20 #[.val (.long vv), .second, .val (.int ((((((((((1 : Int32) + (1 : Int32)) + (1 : Int32)) + (1 : Int32)) + (1 : Int32)) + (1 : Int32)) + (1 : Int32)) + (1 : Int32)) + (1 : Int32)) + (1 : Int32))), .val (.long r9), .second] [(.long (XT.ushrL r9 (7 : Int32)))])) _
                      refine XT.lstoreN X0.here hx rfl (hb hby d1_20) rfl (l' := #[.val (.long vv), .second, .val (.int ((((((((((1 : Int32) + (1 : Int32)) + (1 : Int32)) + (1 : Int32)) + (1 : Int32)) + (1 : Int32)) + (1 : Int32)) + (1 : Int32)) + (1 : Int32)) + (1 : Int32))), .val (.long (XT.ushrL r9 (7 : Int32))), .second]) rfl ?_
                      show Steps p.tables e below (s₁.setTop (mkF m 21 #[.val (.long vv), .second, .val (.int ((((((((((1 : Int32) + (1 : Int32)) + (1 : Int32)) + (1 : Int32)) + (1 : Int32)) + (1 : Int32)) + (1 : Int32)) + (1 : Int32)) + (1 : Int32)) + (1 : Int32))), .val (.long (XT.ushrL r9 (7 : Int32))), .second] [])) _
                      refine XS.goto X0.here hx rfl (pc0 := 21) (pc' := 7) rfl (hb hby d1_21) (by decide) (by decide) ?_
                      show Steps p.tables e below (s₁.setTop (mkF m 7 #[.val (.long vv), .second, .val (.int ((((((((((1 : Int32) + (1 : Int32)) + (1 : Int32)) + (1 : Int32)) + (1 : Int32)) + (1 : Int32)) + (1 : Int32)) + (1 : Int32)) + (1 : Int32)) + (1 : Int32))), .val (.long (XT.ushrL r9 (7 : Int32))), .second] [])) _
                      exact k
                    obtain ⟨r10, hn_r10, pre47⟩ : ∃ r10 : Int64, r10 = (XT.ushrL r9 (7 : Int32)) ∧ ∀ t, Steps p.tables e below (s₁.setTop (mkF m 7 #[.val (.long vv), .second, .val (.int ((((((((((1 : Int32) + (1 : Int32)) + (1 : Int32)) + (1 : Int32)) + (1 : Int32)) + (1 : Int32)) + (1 : Int32)) + (1 : Int32)) + (1 : Int32)) + (1 : Int32))), .val (.long r10), .second] [])) t → Steps p.tables e below (s₁.setTop (entryFrame m #[(.long vv)] 5)) t := ⟨_, rfl, pre46⟩
                    have u10 := own_N7 r9
                    rw [← hn_r10] at u10
                    have pre48 : ∀ t, Steps p.tables e below (s₁.setTop (mkF m 25 #[.val (.long vv), .second, .val (.int ((((((((((1 : Int32) + (1 : Int32)) + (1 : Int32)) + (1 : Int32)) + (1 : Int32)) + (1 : Int32)) + (1 : Int32)) + (1 : Int32)) + (1 : Int32)) + (1 : Int32))), .val (.long r10), .second] [(.int ((((((((((1 : Int32) + (1 : Int32)) + (1 : Int32)) + (1 : Int32)) + (1 : Int32)) + (1 : Int32)) + (1 : Int32)) + (1 : Int32)) + (1 : Int32)) + (1 : Int32)))])) t → Steps p.tables e below (s₁.setTop (entryFrame m #[(.long vv)] 5)) t := by
                      intro t k
                      refine pre47 t ?_
                      refine XT.lloadN X0.here hx rfl (hb hby d1_7) rfl ?_
                      show Steps p.tables e below (s₁.setTop (mkF m 8 #[.val (.long vv), .second, .val (.int ((((((((((1 : Int32) + (1 : Int32)) + (1 : Int32)) + (1 : Int32)) + (1 : Int32)) + (1 : Int32)) + (1 : Int32)) + (1 : Int32)) + (1 : Int32)) + (1 : Int32))), .val (.long r10), .second] [(.long r10)])) _
                      refine XT.lconst X0.here hx rfl (hb hby d1_8) ?_
                      show Steps p.tables e below (s₁.setTop (mkF m 9 #[.val (.long vv), .second, .val (.int ((((((((((1 : Int32) + (1 : Int32)) + (1 : Int32)) + (1 : Int32)) + (1 : Int32)) + (1 : Int32)) + (1 : Int32)) + (1 : Int32)) + (1 : Int32)) + (1 : Int32))), .val (.long r10), .second] [(.long (0 : Int64)), (.long r10)])) _
                      refine XT.lcmp X0.here hx rfl (hb hby d1_9) rfl ?_
                      show Steps p.tables e below (s₁.setTop (mkF m 10 #[.val (.long vv), .second, .val (.int ((((((((((1 : Int32) + (1 : Int32)) + (1 : Int32)) + (1 : Int32)) + (1 : Int32)) + (1 : Int32)) + (1 : Int32)) + (1 : Int32)) + (1 : Int32)) + (1 : Int32))), .val (.long r10), .second] [(.int (XT.cmpL r10 (0 : Int64)))])) _
                      refine XS.ifYes X0.here hx rfl (pc0 := 10) (pc' := 24) rfl (hb hby d1_10) rfl (XT.ll_eq_t (by rw [own_N0]; omega)) (by decide) (by decide) ?_
                      show Steps p.tables e below (s₁.setTop (mkF m 24 #[.val (.long vv), .second, .val (.int ((((((((((1 : Int32) + (1 : Int32)) + (1 : Int32)) + (1 : Int32)) + (1 : Int32)) + (1 : Int32)) + (1 : Int32)) + (1 : Int32)) + (1 : Int32)) + (1 : Int32))), .val (.long r10), .second] [])) _
                      refine XS.iloadN X0.here hx rfl (hb hby d1_24) rfl ?_
                      show Steps p.tables e below (s₁.setTop (mkF m 25 #[.val (.long vv), .second, .val (.int ((((((((((1 : Int32) + (1 : Int32)) + (1 : Int32)) + (1 : Int32)) + (1 : Int32)) + (1 : Int32)) + (1 : Int32)) + (1 : Int32)) + (1 : Int32)) + (1 : Int32))), .val (.long r10), .second] [(.int ((((((((((1 : Int32) + (1 : Int32)) + (1 : Int32)) + (1 : Int32)) + (1 : Int32)) + (1 : Int32)) + (1 : Int32)) + (1 : Int32)) + (1 : Int32)) + (1 : Int32)))])) _
                      exact k
                    obtain ⟨fs, hr, hrun, hended, hW, hsame⟩ := X0.leave (v := some (.int ((((((((((1 : Int32) + (1 : Int32)) + (1 : Int32)) + (1 : Int32)) + (1 : Int32)) + (1 : Int32)) + (1 : Int32)) + (1 : Int32)) + (1 : Int32)) + (1 : Int32)))) (fun h => by rw [Bd.returns] at h; cases h)
                    refine ⟨_, _, pre48 _ ?_, hrun, hended, _, _, rfl, ?_, ⟨_, rfl⟩, hW, hsame.mono (by decide) (by decide)⟩
                    · exact retOut X0 hx Bd.returns rfl (Or.inl ⟨rfl, by simp, _, rfl⟩) (hb hby d1_25) hr
                    · show Q1 Z vv h0 n0 _ s₁.heap _
                      rw [e0]
                      exact ⟨(by unfold own_len; rw [← hn_r1, own_lenF_s hs1, ← hn_r2, own_lenF_s hs2, ← hn_r3, own_lenF_s hs3, ← hn_r4, own_lenF_s hs4, ← hn_r5, own_lenF_s hs5, ← hn_r6, own_lenF_s hs6, ← hn_r7, own_lenF_s hs7, ← hn_r8, own_lenF_s hs8, ← hn_r9, own_lenF_s hs9, ← hn_r10]; rfl), N0, rfl⟩
theorem pd_rea : parseMethodDescriptor "(JJ)I" = some ⟨[.long, .long], some .int⟩ := by decide +kernel
theorem pn_2 : plainName "com/example/byteweave/byteweave/keyed/VsuiLengthPinLaw" = true := by first | (simp [plainName, overriddenIn]; done) | decide +kernel
theorem d2_0 : decode method_3_code 0 = .ok (.iconst 1, 1) := by decide +kernel
theorem d2_1 : decode method_3_code 1 = .ok (.lload_n 0, 1) := by decide +kernel
theorem d2_2 : decode method_3_code 2 = .ok (.ldc2_w 7, 3) := by decide +kernel
theorem d2_5 : decode method_3_code 5 = .ok (.invokestatic 9, 3) := by decide +kernel
theorem d2_8 : decode method_3_code 8 = .ok (.iadd, 1) := by decide +kernel
theorem d2_9 : decode method_3_code 9 = .ok (.lload_n 0, 1) := by decide +kernel
theorem d2_10 : decode method_3_code 10 = .ok (.ldc2_w 15, 3) := by decide +kernel
theorem d2_13 : decode method_3_code 13 = .ok (.invokestatic 9, 3) := by decide +kernel
theorem d2_16 : decode method_3_code 16 = .ok (.iadd, 1) := by decide +kernel
theorem d2_17 : decode method_3_code 17 = .ok (.lload_n 0, 1) := by decide +kernel
theorem d2_18 : decode method_3_code 18 = .ok (.ldc2_w 17, 3) := by decide +kernel
theorem d2_21 : decode method_3_code 21 = .ok (.invokestatic 9, 3) := by decide +kernel
theorem d2_24 : decode method_3_code 24 = .ok (.iadd, 1) := by decide +kernel
theorem d2_25 : decode method_3_code 25 = .ok (.lload_n 0, 1) := by decide +kernel
theorem d2_26 : decode method_3_code 26 = .ok (.ldc2_w 19, 3) := by decide +kernel
theorem d2_29 : decode method_3_code 29 = .ok (.invokestatic 9, 3) := by decide +kernel
theorem d2_32 : decode method_3_code 32 = .ok (.iadd, 1) := by decide +kernel
theorem d2_33 : decode method_3_code 33 = .ok (.lload_n 0, 1) := by decide +kernel
theorem d2_34 : decode method_3_code 34 = .ok (.ldc2_w 21, 3) := by decide +kernel
theorem d2_37 : decode method_3_code 37 = .ok (.invokestatic 9, 3) := by decide +kernel
theorem d2_40 : decode method_3_code 40 = .ok (.iadd, 1) := by decide +kernel
theorem d2_41 : decode method_3_code 41 = .ok (.lload_n 0, 1) := by decide +kernel
theorem d2_42 : decode method_3_code 42 = .ok (.ldc2_w 23, 3) := by decide +kernel
theorem d2_45 : decode method_3_code 45 = .ok (.invokestatic 9, 3) := by decide +kernel
theorem d2_48 : decode method_3_code 48 = .ok (.iadd, 1) := by decide +kernel
theorem d2_49 : decode method_3_code 49 = .ok (.lload_n 0, 1) := by decide +kernel
theorem d2_50 : decode method_3_code 50 = .ok (.ldc2_w 25, 3) := by decide +kernel
theorem d2_53 : decode method_3_code 53 = .ok (.invokestatic 9, 3) := by decide +kernel
theorem d2_56 : decode method_3_code 56 = .ok (.iadd, 1) := by decide +kernel
theorem d2_57 : decode method_3_code 57 = .ok (.lload_n 0, 1) := by decide +kernel
theorem d2_58 : decode method_3_code 58 = .ok (.ldc2_w 27, 3) := by decide +kernel
theorem d2_61 : decode method_3_code 61 = .ok (.invokestatic 9, 3) := by decide +kernel
theorem d2_64 : decode method_3_code 64 = .ok (.iadd, 1) := by decide +kernel
theorem d2_65 : decode method_3_code 65 = .ok (.ireturn, 1) := by decide +kernel
theorem ef_2 (m : MethodId) (vv : Int64) : entryFrame m #[(.long vv)] 2 = mkF m 0 #[.val (.long vv), .second] [] := by first | (simp [entryFrame, mkF, argsToLocals, Value.category]; done) | rfl
def Q2 (Z : State) (vv : Int64) (h0 : Heap) (n0 : Nat) (v : Option Value) (h : Heap) (L : List Loc) : Prop := v = some (.int (own_exp vv)) ∧ Fr n0 L ∧ h = h0
set_option maxRecDepth 65536 in
set_option maxHeartbeats 40000000 in
theorem rm2 (l : Launch) (Z : State) (a0 : Array Value) (hw : ∀ d ∈ tables_1, d.before a0 Z = true) (ws : List Jvm.Cond) (vv : Int64) (h0 : Heap) (n0 : Nat) (Z0 : n0 ≤ h0.size) :
    MetFree l (⟨"com/example/byteweave/byteweave/keyed/VsuiLengthPinLaw", "expected", "(J)I"⟩ : MethodName) (head1 (Jvm.Cond.code (⟨"com/example/byteweave/byteweave/keyed/VsuiLengthPinLaw", "expected", "(J)I"⟩ : MethodName) method_3_code 2 (some .int) :: ws) ({ frames := 1, cells := 0, slots := 0, locals := 16 } : Room)) (fun a U => a = #[(.long vv)] ∧ Z.Warmed39 U.vm ∧ U.heap = h0) (fun _ _ _ _ _ => True) (fun _ U o U' => ∃ v L, o = .returned v ∧ Q2 Z vv h0 n0 v U'.heap L ∧ FrameEnd U o U' L ({ frames := 1, cells := 0, slots := 0, locals := 16 } : Room).cells ({ frames := 1, cells := 0, slots := 0, locals := 16 } : Room).slots) := by
  refine MetFree.of_bodySF (plainFor_of_name pn_2) hisR ?_
  intro p e s m args below meth c s₁ Bd hml0 hP hK
  obtain ⟨rfl, hZ, hh⟩ := hP
  have hx := Bd.exec
  have hby := Bd.bytes
  have hml : c.maxLocals = 2 := hml0
  have hown : s.vm.findClass "com/example/byteweave/byteweave/keyed/VsuiLengthPinLaw" = some m.cls := findClass_of_methodNamed Bd.named
  have hnm := (name_of_methodNamed Bd.named Bd.method).1
  have X0 : Stand p l e ({ frames := 1, cells := 0, slots := 0, locals := 16 } : Room) s m #[(.long vv)] below meth c s₁ [] 0 0 := Stand.of_body Bd
  have e0 : s₁.heap = h0 := by rw [← hh, Bd.state]; rfl
  have N0 := Fr.nil n0
  have pre0 : ∀ t, Steps p.tables e below (s₁.setTop (mkF m 0 #[.val (.long vv), .second] [])) t → Steps p.tables e below (s₁.setTop (entryFrame m #[(.long vv)] 2)) t := fun t k => castTop (ef_2 m vv) k
  have pre2 : ∀ t, Steps p.tables e below (s₁.setTop (mkF m 5 #[.val (.long vv), .second] [(.long (128 : Int64)), (.long vv), (.int (1 : Int32))])) t → Steps p.tables e below (s₁.setTop (entryFrame m #[(.long vv)] 2)) t := by
    intro t k
    refine pre0 t ?_
    refine XS.iconst X0.here hx rfl (hb hby d2_0) ?_
    show Steps p.tables e below (s₁.setTop (mkF m 1 #[.val (.long vv), .second] [(.int (1 : Int32))])) _
    refine XT.lloadN X0.here hx rfl (hb hby d2_1) rfl ?_
    show Steps p.tables e below (s₁.setTop (mkF m 2 #[.val (.long vv), .second] [(.long vv), (.int (1 : Int32))])) _
    refine Stand.ldc2J X0 hx hown (mvT hZ (hw _ (List.mem_of_getElem? (i := 10) rfl))) rfl (hb hby d2_2) ?_
    show Steps p.tables e below (s₁.setTop (mkF m 5 #[.val (.long vv), .second] [(.long (128 : Int64)), (.long vv), (.int (1 : Int32))])) _
    exact k
  obtain ⟨_, _, ⟨T3, L3, k3, n3⟩, -, X3, ⟨Lc3, hQ3, l3, y3, z3⟩, st3⟩ := Jvm.LawKit.callS X0 hx (y := (⟨"com/example/byteweave/byteweave/keyed/VsuiLengthPinLaw", "reach", "(JJ)I"⟩ : MethodName)) hown (mvT hZ (hw _ (List.mem_of_getElem? (i := 11) rfl))) (mvT hZ (hw _ (List.mem_of_getElem? (i := 12) rfl))) (mvT hZ (hw _ (List.mem_of_getElem? (i := 8) rfl))) (mvT hZ (hw _ (List.mem_of_getElem? (i := 13) rfl))) (by decide) (backOf (W := 1) (rm3 l Z a0 hw [] vv (128 : Int64) h0 n0 Z0) hZ (hw _ (List.mem_of_getElem? (i := 13) rfl)) (hw _ (List.mem_of_getElem? (i := 8) rfl)) (by decide) (by decide)) (g := (mkF m 5 #[.val (.long vv), .second] [(.long (128 : Int64)), (.long vv), (.int (1 : Int32))])) rfl (by rw [hml]; rfl) (argsL := [(.long vv), (.long (128 : Int64))]) (rest := [(.int (1 : Int32))]) (lenOf pd_rea rfl) rfl (by show 2 * 0 + _ ≤ _; exact Nat.le_of_eq rfl) (hb hby d2_5) (fun _ _ => ⟨rfl, e0, (by decide : 0 + 0 ≤ _), (by decide : 0 + 0 ≤ _)⟩)
  dsimp only [Pt.U, Pt.locs, Pt.cells, Pt.slots] at X3 l3 y3 z3 st3 hQ3
  subst l3 y3 z3
  obtain ⟨rfl, Nq3, heq3⟩ := hQ3
  have N3 := Fr.app N0 Nq3
  have pre4 : ∀ t, Steps p.tables e below (T3.setTop (mkF m 8 #[.val (.long vv), .second] [(.int (own_bi (¬ vv < (128 : Int64)))), (.int (1 : Int32))])) t → Steps p.tables e below (s₁.setTop (entryFrame m #[(.long vv)] 2)) t := fun t k => pre2 t (st3 t k)
  have pre6 : ∀ t, Steps p.tables e below (T3.setTop (mkF m 13 #[.val (.long vv), .second] [(.long (16384 : Int64)), (.long vv), (.int ((1 : Int32) + (own_bi (¬ vv < (128 : Int64)))))])) t → Steps p.tables e below (s₁.setTop (entryFrame m #[(.long vv)] 2)) t := by
    intro t k
    refine pre4 t ?_
    refine XS.iadd X3.here hx rfl (hb hby d2_8) rfl ?_
    show Steps p.tables e below (T3.setTop (mkF m 9 #[.val (.long vv), .second] [(.int ((1 : Int32) + (own_bi (¬ vv < (128 : Int64)))))])) _
    refine XT.lloadN X3.here hx rfl (hb hby d2_9) rfl ?_
    show Steps p.tables e below (T3.setTop (mkF m 10 #[.val (.long vv), .second] [(.long vv), (.int ((1 : Int32) + (own_bi (¬ vv < (128 : Int64)))))])) _
    refine Stand.ldc2J X3 hx hown (mvT hZ (hw _ (List.mem_of_getElem? (i := 14) rfl))) rfl (hb hby d2_10) ?_
    show Steps p.tables e below (T3.setTop (mkF m 13 #[.val (.long vv), .second] [(.long (16384 : Int64)), (.long vv), (.int ((1 : Int32) + (own_bi (¬ vv < (128 : Int64)))))])) _
    exact k
  obtain ⟨_, _, ⟨T7, L7, k7, n7⟩, -, X7, ⟨Lc7, hQ7, l7, y7, z7⟩, st7⟩ := Jvm.LawKit.callS X3 hx (y := (⟨"com/example/byteweave/byteweave/keyed/VsuiLengthPinLaw", "reach", "(JJ)I"⟩ : MethodName)) hown (mvT hZ (hw _ (List.mem_of_getElem? (i := 11) rfl))) (mvT hZ (hw _ (List.mem_of_getElem? (i := 12) rfl))) (mvT hZ (hw _ (List.mem_of_getElem? (i := 8) rfl))) (mvT hZ (hw _ (List.mem_of_getElem? (i := 13) rfl))) (by decide) (backOf (W := 1) (rm3 l Z a0 hw [] vv (16384 : Int64) h0 n0 Z0) hZ (hw _ (List.mem_of_getElem? (i := 13) rfl)) (hw _ (List.mem_of_getElem? (i := 8) rfl)) (by decide) (by decide)) (g := (mkF m 13 #[.val (.long vv), .second] [(.long (16384 : Int64)), (.long vv), (.int ((1 : Int32) + (own_bi (¬ vv < (128 : Int64)))))])) rfl (by rw [hml]; rfl) (argsL := [(.long vv), (.long (16384 : Int64))]) (rest := [(.int ((1 : Int32) + (own_bi (¬ vv < (128 : Int64)))))]) (lenOf pd_rea rfl) rfl (by show 2 * 0 + _ ≤ _; exact Nat.le_of_eq rfl) (hb hby d2_13) (fun _ _ => ⟨rfl, heq3, (by decide : 0 + 0 ≤ _), (by decide : 0 + 0 ≤ _)⟩)
  dsimp only [Pt.U, Pt.locs, Pt.cells, Pt.slots] at X7 l7 y7 z7 st7 hQ7
  subst l7 y7 z7
  obtain ⟨rfl, Nq7, heq7⟩ := hQ7
  have N7 := Fr.app N3 Nq7
  have pre8 : ∀ t, Steps p.tables e below (T7.setTop (mkF m 16 #[.val (.long vv), .second] [(.int (own_bi (¬ vv < (16384 : Int64)))), (.int ((1 : Int32) + (own_bi (¬ vv < (128 : Int64)))))])) t → Steps p.tables e below (s₁.setTop (entryFrame m #[(.long vv)] 2)) t := fun t k => pre6 t (st7 t k)
  have pre10 : ∀ t, Steps p.tables e below (T7.setTop (mkF m 21 #[.val (.long vv), .second] [(.long (2097152 : Int64)), (.long vv), (.int (((1 : Int32) + (own_bi (¬ vv < (128 : Int64)))) + (own_bi (¬ vv < (16384 : Int64)))))])) t → Steps p.tables e below (s₁.setTop (entryFrame m #[(.long vv)] 2)) t := by
    intro t k
    refine pre8 t ?_
    refine XS.iadd X7.here hx rfl (hb hby d2_16) rfl ?_
    show Steps p.tables e below (T7.setTop (mkF m 17 #[.val (.long vv), .second] [(.int (((1 : Int32) + (own_bi (¬ vv < (128 : Int64)))) + (own_bi (¬ vv < (16384 : Int64)))))])) _
    refine XT.lloadN X7.here hx rfl (hb hby d2_17) rfl ?_
    show Steps p.tables e below (T7.setTop (mkF m 18 #[.val (.long vv), .second] [(.long vv), (.int (((1 : Int32) + (own_bi (¬ vv < (128 : Int64)))) + (own_bi (¬ vv < (16384 : Int64)))))])) _
    refine Stand.ldc2J X7 hx hown (mvT hZ (hw _ (List.mem_of_getElem? (i := 15) rfl))) rfl (hb hby d2_18) ?_
    show Steps p.tables e below (T7.setTop (mkF m 21 #[.val (.long vv), .second] [(.long (2097152 : Int64)), (.long vv), (.int (((1 : Int32) + (own_bi (¬ vv < (128 : Int64)))) + (own_bi (¬ vv < (16384 : Int64)))))])) _
    exact k
  obtain ⟨_, _, ⟨T11, L11, k11, n11⟩, -, X11, ⟨Lc11, hQ11, l11, y11, z11⟩, st11⟩ := Jvm.LawKit.callS X7 hx (y := (⟨"com/example/byteweave/byteweave/keyed/VsuiLengthPinLaw", "reach", "(JJ)I"⟩ : MethodName)) hown (mvT hZ (hw _ (List.mem_of_getElem? (i := 11) rfl))) (mvT hZ (hw _ (List.mem_of_getElem? (i := 12) rfl))) (mvT hZ (hw _ (List.mem_of_getElem? (i := 8) rfl))) (mvT hZ (hw _ (List.mem_of_getElem? (i := 13) rfl))) (by decide) (backOf (W := 1) (rm3 l Z a0 hw [] vv (2097152 : Int64) h0 n0 Z0) hZ (hw _ (List.mem_of_getElem? (i := 13) rfl)) (hw _ (List.mem_of_getElem? (i := 8) rfl)) (by decide) (by decide)) (g := (mkF m 21 #[.val (.long vv), .second] [(.long (2097152 : Int64)), (.long vv), (.int (((1 : Int32) + (own_bi (¬ vv < (128 : Int64)))) + (own_bi (¬ vv < (16384 : Int64)))))])) rfl (by rw [hml]; rfl) (argsL := [(.long vv), (.long (2097152 : Int64))]) (rest := [(.int (((1 : Int32) + (own_bi (¬ vv < (128 : Int64)))) + (own_bi (¬ vv < (16384 : Int64)))))]) (lenOf pd_rea rfl) rfl (by show 2 * 0 + _ ≤ _; exact Nat.le_of_eq rfl) (hb hby d2_21) (fun _ _ => ⟨rfl, heq7, (by decide : 0 + 0 ≤ _), (by decide : 0 + 0 ≤ _)⟩)
  dsimp only [Pt.U, Pt.locs, Pt.cells, Pt.slots] at X11 l11 y11 z11 st11 hQ11
  subst l11 y11 z11
  obtain ⟨rfl, Nq11, heq11⟩ := hQ11
  have N11 := Fr.app N7 Nq11
  have pre12 : ∀ t, Steps p.tables e below (T11.setTop (mkF m 24 #[.val (.long vv), .second] [(.int (own_bi (¬ vv < (2097152 : Int64)))), (.int (((1 : Int32) + (own_bi (¬ vv < (128 : Int64)))) + (own_bi (¬ vv < (16384 : Int64)))))])) t → Steps p.tables e below (s₁.setTop (entryFrame m #[(.long vv)] 2)) t := fun t k => pre10 t (st11 t k)
  have pre14 : ∀ t, Steps p.tables e below (T11.setTop (mkF m 29 #[.val (.long vv), .second] [(.long (268435456 : Int64)), (.long vv), (.int ((((1 : Int32) + (own_bi (¬ vv < (128 : Int64)))) + (own_bi (¬ vv < (16384 : Int64)))) + (own_bi (¬ vv < (2097152 : Int64)))))])) t → Steps p.tables e below (s₁.setTop (entryFrame m #[(.long vv)] 2)) t := by
    intro t k
    refine pre12 t ?_
    refine XS.iadd X11.here hx rfl (hb hby d2_24) rfl ?_
    show Steps p.tables e below (T11.setTop (mkF m 25 #[.val (.long vv), .second] [(.int ((((1 : Int32) + (own_bi (¬ vv < (128 : Int64)))) + (own_bi (¬ vv < (16384 : Int64)))) + (own_bi (¬ vv < (2097152 : Int64)))))])) _
    refine XT.lloadN X11.here hx rfl (hb hby d2_25) rfl ?_
    show Steps p.tables e below (T11.setTop (mkF m 26 #[.val (.long vv), .second] [(.long vv), (.int ((((1 : Int32) + (own_bi (¬ vv < (128 : Int64)))) + (own_bi (¬ vv < (16384 : Int64)))) + (own_bi (¬ vv < (2097152 : Int64)))))])) _
    refine Stand.ldc2J X11 hx hown (mvT hZ (hw _ (List.mem_of_getElem? (i := 16) rfl))) rfl (hb hby d2_26) ?_
    show Steps p.tables e below (T11.setTop (mkF m 29 #[.val (.long vv), .second] [(.long (268435456 : Int64)), (.long vv), (.int ((((1 : Int32) + (own_bi (¬ vv < (128 : Int64)))) + (own_bi (¬ vv < (16384 : Int64)))) + (own_bi (¬ vv < (2097152 : Int64)))))])) _
    exact k
  obtain ⟨_, _, ⟨T15, L15, k15, n15⟩, -, X15, ⟨Lc15, hQ15, l15, y15, z15⟩, st15⟩ := Jvm.LawKit.callS X11 hx (y := (⟨"com/example/byteweave/byteweave/keyed/VsuiLengthPinLaw", "reach", "(JJ)I"⟩ : MethodName)) hown (mvT hZ (hw _ (List.mem_of_getElem? (i := 11) rfl))) (mvT hZ (hw _ (List.mem_of_getElem? (i := 12) rfl))) (mvT hZ (hw _ (List.mem_of_getElem? (i := 8) rfl))) (mvT hZ (hw _ (List.mem_of_getElem? (i := 13) rfl))) (by decide) (backOf (W := 1) (rm3 l Z a0 hw [] vv (268435456 : Int64) h0 n0 Z0) hZ (hw _ (List.mem_of_getElem? (i := 13) rfl)) (hw _ (List.mem_of_getElem? (i := 8) rfl)) (by decide) (by decide)) (g := (mkF m 29 #[.val (.long vv), .second] [(.long (268435456 : Int64)), (.long vv), (.int ((((1 : Int32) + (own_bi (¬ vv < (128 : Int64)))) + (own_bi (¬ vv < (16384 : Int64)))) + (own_bi (¬ vv < (2097152 : Int64)))))])) rfl (by rw [hml]; rfl) (argsL := [(.long vv), (.long (268435456 : Int64))]) (rest := [(.int ((((1 : Int32) + (own_bi (¬ vv < (128 : Int64)))) + (own_bi (¬ vv < (16384 : Int64)))) + (own_bi (¬ vv < (2097152 : Int64)))))]) (lenOf pd_rea rfl) rfl (by show 2 * 0 + _ ≤ _; exact Nat.le_of_eq rfl) (hb hby d2_29) (fun _ _ => ⟨rfl, heq11, (by decide : 0 + 0 ≤ _), (by decide : 0 + 0 ≤ _)⟩)
  dsimp only [Pt.U, Pt.locs, Pt.cells, Pt.slots] at X15 l15 y15 z15 st15 hQ15
  subst l15 y15 z15
  obtain ⟨rfl, Nq15, heq15⟩ := hQ15
  have N15 := Fr.app N11 Nq15
  have pre16 : ∀ t, Steps p.tables e below (T15.setTop (mkF m 32 #[.val (.long vv), .second] [(.int (own_bi (¬ vv < (268435456 : Int64)))), (.int ((((1 : Int32) + (own_bi (¬ vv < (128 : Int64)))) + (own_bi (¬ vv < (16384 : Int64)))) + (own_bi (¬ vv < (2097152 : Int64)))))])) t → Steps p.tables e below (s₁.setTop (entryFrame m #[(.long vv)] 2)) t := fun t k => pre14 t (st15 t k)
  have pre18 : ∀ t, Steps p.tables e below (T15.setTop (mkF m 37 #[.val (.long vv), .second] [(.long (34359738368 : Int64)), (.long vv), (.int (((((1 : Int32) + (own_bi (¬ vv < (128 : Int64)))) + (own_bi (¬ vv < (16384 : Int64)))) + (own_bi (¬ vv < (2097152 : Int64)))) + (own_bi (¬ vv < (268435456 : Int64)))))])) t → Steps p.tables e below (s₁.setTop (entryFrame m #[(.long vv)] 2)) t := by
    intro t k
    refine pre16 t ?_
    refine XS.iadd X15.here hx rfl (hb hby d2_32) rfl ?_
    show Steps p.tables e below (T15.setTop (mkF m 33 #[.val (.long vv), .second] [(.int (((((1 : Int32) + (own_bi (¬ vv < (128 : Int64)))) + (own_bi (¬ vv < (16384 : Int64)))) + (own_bi (¬ vv < (2097152 : Int64)))) + (own_bi (¬ vv < (268435456 : Int64)))))])) _
    refine XT.lloadN X15.here hx rfl (hb hby d2_33) rfl ?_
    show Steps p.tables e below (T15.setTop (mkF m 34 #[.val (.long vv), .second] [(.long vv), (.int (((((1 : Int32) + (own_bi (¬ vv < (128 : Int64)))) + (own_bi (¬ vv < (16384 : Int64)))) + (own_bi (¬ vv < (2097152 : Int64)))) + (own_bi (¬ vv < (268435456 : Int64)))))])) _
    refine Stand.ldc2J X15 hx hown (mvT hZ (hw _ (List.mem_of_getElem? (i := 17) rfl))) rfl (hb hby d2_34) ?_
    show Steps p.tables e below (T15.setTop (mkF m 37 #[.val (.long vv), .second] [(.long (34359738368 : Int64)), (.long vv), (.int (((((1 : Int32) + (own_bi (¬ vv < (128 : Int64)))) + (own_bi (¬ vv < (16384 : Int64)))) + (own_bi (¬ vv < (2097152 : Int64)))) + (own_bi (¬ vv < (268435456 : Int64)))))])) _
    exact k
  obtain ⟨_, _, ⟨T19, L19, k19, n19⟩, -, X19, ⟨Lc19, hQ19, l19, y19, z19⟩, st19⟩ := Jvm.LawKit.callS X15 hx (y := (⟨"com/example/byteweave/byteweave/keyed/VsuiLengthPinLaw", "reach", "(JJ)I"⟩ : MethodName)) hown (mvT hZ (hw _ (List.mem_of_getElem? (i := 11) rfl))) (mvT hZ (hw _ (List.mem_of_getElem? (i := 12) rfl))) (mvT hZ (hw _ (List.mem_of_getElem? (i := 8) rfl))) (mvT hZ (hw _ (List.mem_of_getElem? (i := 13) rfl))) (by decide) (backOf (W := 1) (rm3 l Z a0 hw [] vv (34359738368 : Int64) h0 n0 Z0) hZ (hw _ (List.mem_of_getElem? (i := 13) rfl)) (hw _ (List.mem_of_getElem? (i := 8) rfl)) (by decide) (by decide)) (g := (mkF m 37 #[.val (.long vv), .second] [(.long (34359738368 : Int64)), (.long vv), (.int (((((1 : Int32) + (own_bi (¬ vv < (128 : Int64)))) + (own_bi (¬ vv < (16384 : Int64)))) + (own_bi (¬ vv < (2097152 : Int64)))) + (own_bi (¬ vv < (268435456 : Int64)))))])) rfl (by rw [hml]; rfl) (argsL := [(.long vv), (.long (34359738368 : Int64))]) (rest := [(.int (((((1 : Int32) + (own_bi (¬ vv < (128 : Int64)))) + (own_bi (¬ vv < (16384 : Int64)))) + (own_bi (¬ vv < (2097152 : Int64)))) + (own_bi (¬ vv < (268435456 : Int64)))))]) (lenOf pd_rea rfl) rfl (by show 2 * 0 + _ ≤ _; exact Nat.le_of_eq rfl) (hb hby d2_37) (fun _ _ => ⟨rfl, heq15, (by decide : 0 + 0 ≤ _), (by decide : 0 + 0 ≤ _)⟩)
  dsimp only [Pt.U, Pt.locs, Pt.cells, Pt.slots] at X19 l19 y19 z19 st19 hQ19
  subst l19 y19 z19
  obtain ⟨rfl, Nq19, heq19⟩ := hQ19
  have N19 := Fr.app N15 Nq19
  have pre20 : ∀ t, Steps p.tables e below (T19.setTop (mkF m 40 #[.val (.long vv), .second] [(.int (own_bi (¬ vv < (34359738368 : Int64)))), (.int (((((1 : Int32) + (own_bi (¬ vv < (128 : Int64)))) + (own_bi (¬ vv < (16384 : Int64)))) + (own_bi (¬ vv < (2097152 : Int64)))) + (own_bi (¬ vv < (268435456 : Int64)))))])) t → Steps p.tables e below (s₁.setTop (entryFrame m #[(.long vv)] 2)) t := fun t k => pre18 t (st19 t k)
  have pre22 : ∀ t, Steps p.tables e below (T19.setTop (mkF m 45 #[.val (.long vv), .second] [(.long (4398046511104 : Int64)), (.long vv), (.int ((((((1 : Int32) + (own_bi (¬ vv < (128 : Int64)))) + (own_bi (¬ vv < (16384 : Int64)))) + (own_bi (¬ vv < (2097152 : Int64)))) + (own_bi (¬ vv < (268435456 : Int64)))) + (own_bi (¬ vv < (34359738368 : Int64)))))])) t → Steps p.tables e below (s₁.setTop (entryFrame m #[(.long vv)] 2)) t := by
    intro t k
    refine pre20 t ?_
    refine XS.iadd X19.here hx rfl (hb hby d2_40) rfl ?_
    show Steps p.tables e below (T19.setTop (mkF m 41 #[.val (.long vv), .second] [(.int ((((((1 : Int32) + (own_bi (¬ vv < (128 : Int64)))) + (own_bi (¬ vv < (16384 : Int64)))) + (own_bi (¬ vv < (2097152 : Int64)))) + (own_bi (¬ vv < (268435456 : Int64)))) + (own_bi (¬ vv < (34359738368 : Int64)))))])) _
    refine XT.lloadN X19.here hx rfl (hb hby d2_41) rfl ?_
    show Steps p.tables e below (T19.setTop (mkF m 42 #[.val (.long vv), .second] [(.long vv), (.int ((((((1 : Int32) + (own_bi (¬ vv < (128 : Int64)))) + (own_bi (¬ vv < (16384 : Int64)))) + (own_bi (¬ vv < (2097152 : Int64)))) + (own_bi (¬ vv < (268435456 : Int64)))) + (own_bi (¬ vv < (34359738368 : Int64)))))])) _
    refine Stand.ldc2J X19 hx hown (mvT hZ (hw _ (List.mem_of_getElem? (i := 18) rfl))) rfl (hb hby d2_42) ?_
    show Steps p.tables e below (T19.setTop (mkF m 45 #[.val (.long vv), .second] [(.long (4398046511104 : Int64)), (.long vv), (.int ((((((1 : Int32) + (own_bi (¬ vv < (128 : Int64)))) + (own_bi (¬ vv < (16384 : Int64)))) + (own_bi (¬ vv < (2097152 : Int64)))) + (own_bi (¬ vv < (268435456 : Int64)))) + (own_bi (¬ vv < (34359738368 : Int64)))))])) _
    exact k
  obtain ⟨_, _, ⟨T23, L23, k23, n23⟩, -, X23, ⟨Lc23, hQ23, l23, y23, z23⟩, st23⟩ := Jvm.LawKit.callS X19 hx (y := (⟨"com/example/byteweave/byteweave/keyed/VsuiLengthPinLaw", "reach", "(JJ)I"⟩ : MethodName)) hown (mvT hZ (hw _ (List.mem_of_getElem? (i := 11) rfl))) (mvT hZ (hw _ (List.mem_of_getElem? (i := 12) rfl))) (mvT hZ (hw _ (List.mem_of_getElem? (i := 8) rfl))) (mvT hZ (hw _ (List.mem_of_getElem? (i := 13) rfl))) (by decide) (backOf (W := 1) (rm3 l Z a0 hw [] vv (4398046511104 : Int64) h0 n0 Z0) hZ (hw _ (List.mem_of_getElem? (i := 13) rfl)) (hw _ (List.mem_of_getElem? (i := 8) rfl)) (by decide) (by decide)) (g := (mkF m 45 #[.val (.long vv), .second] [(.long (4398046511104 : Int64)), (.long vv), (.int ((((((1 : Int32) + (own_bi (¬ vv < (128 : Int64)))) + (own_bi (¬ vv < (16384 : Int64)))) + (own_bi (¬ vv < (2097152 : Int64)))) + (own_bi (¬ vv < (268435456 : Int64)))) + (own_bi (¬ vv < (34359738368 : Int64)))))])) rfl (by rw [hml]; rfl) (argsL := [(.long vv), (.long (4398046511104 : Int64))]) (rest := [(.int ((((((1 : Int32) + (own_bi (¬ vv < (128 : Int64)))) + (own_bi (¬ vv < (16384 : Int64)))) + (own_bi (¬ vv < (2097152 : Int64)))) + (own_bi (¬ vv < (268435456 : Int64)))) + (own_bi (¬ vv < (34359738368 : Int64)))))]) (lenOf pd_rea rfl) rfl (by show 2 * 0 + _ ≤ _; exact Nat.le_of_eq rfl) (hb hby d2_45) (fun _ _ => ⟨rfl, heq19, (by decide : 0 + 0 ≤ _), (by decide : 0 + 0 ≤ _)⟩)
  dsimp only [Pt.U, Pt.locs, Pt.cells, Pt.slots] at X23 l23 y23 z23 st23 hQ23
  subst l23 y23 z23
  obtain ⟨rfl, Nq23, heq23⟩ := hQ23
  have N23 := Fr.app N19 Nq23
  have pre24 : ∀ t, Steps p.tables e below (T23.setTop (mkF m 48 #[.val (.long vv), .second] [(.int (own_bi (¬ vv < (4398046511104 : Int64)))), (.int ((((((1 : Int32) + (own_bi (¬ vv < (128 : Int64)))) + (own_bi (¬ vv < (16384 : Int64)))) + (own_bi (¬ vv < (2097152 : Int64)))) + (own_bi (¬ vv < (268435456 : Int64)))) + (own_bi (¬ vv < (34359738368 : Int64)))))])) t → Steps p.tables e below (s₁.setTop (entryFrame m #[(.long vv)] 2)) t := fun t k => pre22 t (st23 t k)
  have pre26 : ∀ t, Steps p.tables e below (T23.setTop (mkF m 53 #[.val (.long vv), .second] [(.long (562949953421312 : Int64)), (.long vv), (.int (((((((1 : Int32) + (own_bi (¬ vv < (128 : Int64)))) + (own_bi (¬ vv < (16384 : Int64)))) + (own_bi (¬ vv < (2097152 : Int64)))) + (own_bi (¬ vv < (268435456 : Int64)))) + (own_bi (¬ vv < (34359738368 : Int64)))) + (own_bi (¬ vv < (4398046511104 : Int64)))))])) t → Steps p.tables e below (s₁.setTop (entryFrame m #[(.long vv)] 2)) t := by
    intro t k
    refine pre24 t ?_
    refine XS.iadd X23.here hx rfl (hb hby d2_48) rfl ?_
    show Steps p.tables e below (T23.setTop (mkF m 49 #[.val (.long vv), .second] [(.int (((((((1 : Int32) + (own_bi (¬ vv < (128 : Int64)))) + (own_bi (¬ vv < (16384 : Int64)))) + (own_bi (¬ vv < (2097152 : Int64)))) + (own_bi (¬ vv < (268435456 : Int64)))) + (own_bi (¬ vv < (34359738368 : Int64)))) + (own_bi (¬ vv < (4398046511104 : Int64)))))])) _
    refine XT.lloadN X23.here hx rfl (hb hby d2_49) rfl ?_
    show Steps p.tables e below (T23.setTop (mkF m 50 #[.val (.long vv), .second] [(.long vv), (.int (((((((1 : Int32) + (own_bi (¬ vv < (128 : Int64)))) + (own_bi (¬ vv < (16384 : Int64)))) + (own_bi (¬ vv < (2097152 : Int64)))) + (own_bi (¬ vv < (268435456 : Int64)))) + (own_bi (¬ vv < (34359738368 : Int64)))) + (own_bi (¬ vv < (4398046511104 : Int64)))))])) _
    refine Stand.ldc2J X23 hx hown (mvT hZ (hw _ (List.mem_of_getElem? (i := 19) rfl))) rfl (hb hby d2_50) ?_
    show Steps p.tables e below (T23.setTop (mkF m 53 #[.val (.long vv), .second] [(.long (562949953421312 : Int64)), (.long vv), (.int (((((((1 : Int32) + (own_bi (¬ vv < (128 : Int64)))) + (own_bi (¬ vv < (16384 : Int64)))) + (own_bi (¬ vv < (2097152 : Int64)))) + (own_bi (¬ vv < (268435456 : Int64)))) + (own_bi (¬ vv < (34359738368 : Int64)))) + (own_bi (¬ vv < (4398046511104 : Int64)))))])) _
    exact k
  obtain ⟨_, _, ⟨T27, L27, k27, n27⟩, -, X27, ⟨Lc27, hQ27, l27, y27, z27⟩, st27⟩ := Jvm.LawKit.callS X23 hx (y := (⟨"com/example/byteweave/byteweave/keyed/VsuiLengthPinLaw", "reach", "(JJ)I"⟩ : MethodName)) hown (mvT hZ (hw _ (List.mem_of_getElem? (i := 11) rfl))) (mvT hZ (hw _ (List.mem_of_getElem? (i := 12) rfl))) (mvT hZ (hw _ (List.mem_of_getElem? (i := 8) rfl))) (mvT hZ (hw _ (List.mem_of_getElem? (i := 13) rfl))) (by decide) (backOf (W := 1) (rm3 l Z a0 hw [] vv (562949953421312 : Int64) h0 n0 Z0) hZ (hw _ (List.mem_of_getElem? (i := 13) rfl)) (hw _ (List.mem_of_getElem? (i := 8) rfl)) (by decide) (by decide)) (g := (mkF m 53 #[.val (.long vv), .second] [(.long (562949953421312 : Int64)), (.long vv), (.int (((((((1 : Int32) + (own_bi (¬ vv < (128 : Int64)))) + (own_bi (¬ vv < (16384 : Int64)))) + (own_bi (¬ vv < (2097152 : Int64)))) + (own_bi (¬ vv < (268435456 : Int64)))) + (own_bi (¬ vv < (34359738368 : Int64)))) + (own_bi (¬ vv < (4398046511104 : Int64)))))])) rfl (by rw [hml]; rfl) (argsL := [(.long vv), (.long (562949953421312 : Int64))]) (rest := [(.int (((((((1 : Int32) + (own_bi (¬ vv < (128 : Int64)))) + (own_bi (¬ vv < (16384 : Int64)))) + (own_bi (¬ vv < (2097152 : Int64)))) + (own_bi (¬ vv < (268435456 : Int64)))) + (own_bi (¬ vv < (34359738368 : Int64)))) + (own_bi (¬ vv < (4398046511104 : Int64)))))]) (lenOf pd_rea rfl) rfl (by show 2 * 0 + _ ≤ _; exact Nat.le_of_eq rfl) (hb hby d2_53) (fun _ _ => ⟨rfl, heq23, (by decide : 0 + 0 ≤ _), (by decide : 0 + 0 ≤ _)⟩)
  dsimp only [Pt.U, Pt.locs, Pt.cells, Pt.slots] at X27 l27 y27 z27 st27 hQ27
  subst l27 y27 z27
  obtain ⟨rfl, Nq27, heq27⟩ := hQ27
  have N27 := Fr.app N23 Nq27
  have pre28 : ∀ t, Steps p.tables e below (T27.setTop (mkF m 56 #[.val (.long vv), .second] [(.int (own_bi (¬ vv < (562949953421312 : Int64)))), (.int (((((((1 : Int32) + (own_bi (¬ vv < (128 : Int64)))) + (own_bi (¬ vv < (16384 : Int64)))) + (own_bi (¬ vv < (2097152 : Int64)))) + (own_bi (¬ vv < (268435456 : Int64)))) + (own_bi (¬ vv < (34359738368 : Int64)))) + (own_bi (¬ vv < (4398046511104 : Int64)))))])) t → Steps p.tables e below (s₁.setTop (entryFrame m #[(.long vv)] 2)) t := fun t k => pre26 t (st27 t k)
  have pre30 : ∀ t, Steps p.tables e below (T27.setTop (mkF m 61 #[.val (.long vv), .second] [(.long (72057594037927936 : Int64)), (.long vv), (.int ((((((((1 : Int32) + (own_bi (¬ vv < (128 : Int64)))) + (own_bi (¬ vv < (16384 : Int64)))) + (own_bi (¬ vv < (2097152 : Int64)))) + (own_bi (¬ vv < (268435456 : Int64)))) + (own_bi (¬ vv < (34359738368 : Int64)))) + (own_bi (¬ vv < (4398046511104 : Int64)))) + (own_bi (¬ vv < (562949953421312 : Int64)))))])) t → Steps p.tables e below (s₁.setTop (entryFrame m #[(.long vv)] 2)) t := by
    intro t k
    refine pre28 t ?_
    refine XS.iadd X27.here hx rfl (hb hby d2_56) rfl ?_
    show Steps p.tables e below (T27.setTop (mkF m 57 #[.val (.long vv), .second] [(.int ((((((((1 : Int32) + (own_bi (¬ vv < (128 : Int64)))) + (own_bi (¬ vv < (16384 : Int64)))) + (own_bi (¬ vv < (2097152 : Int64)))) + (own_bi (¬ vv < (268435456 : Int64)))) + (own_bi (¬ vv < (34359738368 : Int64)))) + (own_bi (¬ vv < (4398046511104 : Int64)))) + (own_bi (¬ vv < (562949953421312 : Int64)))))])) _
    refine XT.lloadN X27.here hx rfl (hb hby d2_57) rfl ?_
    show Steps p.tables e below (T27.setTop (mkF m 58 #[.val (.long vv), .second] [(.long vv), (.int ((((((((1 : Int32) + (own_bi (¬ vv < (128 : Int64)))) + (own_bi (¬ vv < (16384 : Int64)))) + (own_bi (¬ vv < (2097152 : Int64)))) + (own_bi (¬ vv < (268435456 : Int64)))) + (own_bi (¬ vv < (34359738368 : Int64)))) + (own_bi (¬ vv < (4398046511104 : Int64)))) + (own_bi (¬ vv < (562949953421312 : Int64)))))])) _
    refine Stand.ldc2J X27 hx hown (mvT hZ (hw _ (List.mem_of_getElem? (i := 20) rfl))) rfl (hb hby d2_58) ?_
    show Steps p.tables e below (T27.setTop (mkF m 61 #[.val (.long vv), .second] [(.long (72057594037927936 : Int64)), (.long vv), (.int ((((((((1 : Int32) + (own_bi (¬ vv < (128 : Int64)))) + (own_bi (¬ vv < (16384 : Int64)))) + (own_bi (¬ vv < (2097152 : Int64)))) + (own_bi (¬ vv < (268435456 : Int64)))) + (own_bi (¬ vv < (34359738368 : Int64)))) + (own_bi (¬ vv < (4398046511104 : Int64)))) + (own_bi (¬ vv < (562949953421312 : Int64)))))])) _
    exact k
  obtain ⟨_, _, ⟨T31, L31, k31, n31⟩, -, X31, ⟨Lc31, hQ31, l31, y31, z31⟩, st31⟩ := Jvm.LawKit.callS X27 hx (y := (⟨"com/example/byteweave/byteweave/keyed/VsuiLengthPinLaw", "reach", "(JJ)I"⟩ : MethodName)) hown (mvT hZ (hw _ (List.mem_of_getElem? (i := 11) rfl))) (mvT hZ (hw _ (List.mem_of_getElem? (i := 12) rfl))) (mvT hZ (hw _ (List.mem_of_getElem? (i := 8) rfl))) (mvT hZ (hw _ (List.mem_of_getElem? (i := 13) rfl))) (by decide) (backOf (W := 1) (rm3 l Z a0 hw [] vv (72057594037927936 : Int64) h0 n0 Z0) hZ (hw _ (List.mem_of_getElem? (i := 13) rfl)) (hw _ (List.mem_of_getElem? (i := 8) rfl)) (by decide) (by decide)) (g := (mkF m 61 #[.val (.long vv), .second] [(.long (72057594037927936 : Int64)), (.long vv), (.int ((((((((1 : Int32) + (own_bi (¬ vv < (128 : Int64)))) + (own_bi (¬ vv < (16384 : Int64)))) + (own_bi (¬ vv < (2097152 : Int64)))) + (own_bi (¬ vv < (268435456 : Int64)))) + (own_bi (¬ vv < (34359738368 : Int64)))) + (own_bi (¬ vv < (4398046511104 : Int64)))) + (own_bi (¬ vv < (562949953421312 : Int64)))))])) rfl (by rw [hml]; rfl) (argsL := [(.long vv), (.long (72057594037927936 : Int64))]) (rest := [(.int ((((((((1 : Int32) + (own_bi (¬ vv < (128 : Int64)))) + (own_bi (¬ vv < (16384 : Int64)))) + (own_bi (¬ vv < (2097152 : Int64)))) + (own_bi (¬ vv < (268435456 : Int64)))) + (own_bi (¬ vv < (34359738368 : Int64)))) + (own_bi (¬ vv < (4398046511104 : Int64)))) + (own_bi (¬ vv < (562949953421312 : Int64)))))]) (lenOf pd_rea rfl) rfl (by show 2 * 0 + _ ≤ _; exact Nat.le_of_eq rfl) (hb hby d2_61) (fun _ _ => ⟨rfl, heq27, (by decide : 0 + 0 ≤ _), (by decide : 0 + 0 ≤ _)⟩)
  dsimp only [Pt.U, Pt.locs, Pt.cells, Pt.slots] at X31 l31 y31 z31 st31 hQ31
  subst l31 y31 z31
  obtain ⟨rfl, Nq31, heq31⟩ := hQ31
  have N31 := Fr.app N27 Nq31
  have pre32 : ∀ t, Steps p.tables e below (T31.setTop (mkF m 64 #[.val (.long vv), .second] [(.int (own_bi (¬ vv < (72057594037927936 : Int64)))), (.int ((((((((1 : Int32) + (own_bi (¬ vv < (128 : Int64)))) + (own_bi (¬ vv < (16384 : Int64)))) + (own_bi (¬ vv < (2097152 : Int64)))) + (own_bi (¬ vv < (268435456 : Int64)))) + (own_bi (¬ vv < (34359738368 : Int64)))) + (own_bi (¬ vv < (4398046511104 : Int64)))) + (own_bi (¬ vv < (562949953421312 : Int64)))))])) t → Steps p.tables e below (s₁.setTop (entryFrame m #[(.long vv)] 2)) t := fun t k => pre30 t (st31 t k)
  have pre33 : ∀ t, Steps p.tables e below (T31.setTop (mkF m 65 #[.val (.long vv), .second] [(.int (((((((((1 : Int32) + (own_bi (¬ vv < (128 : Int64)))) + (own_bi (¬ vv < (16384 : Int64)))) + (own_bi (¬ vv < (2097152 : Int64)))) + (own_bi (¬ vv < (268435456 : Int64)))) + (own_bi (¬ vv < (34359738368 : Int64)))) + (own_bi (¬ vv < (4398046511104 : Int64)))) + (own_bi (¬ vv < (562949953421312 : Int64)))) + (own_bi (¬ vv < (72057594037927936 : Int64)))))])) t → Steps p.tables e below (s₁.setTop (entryFrame m #[(.long vv)] 2)) t := by
    intro t k
    refine pre32 t ?_
    refine XS.iadd X31.here hx rfl (hb hby d2_64) rfl ?_
    show Steps p.tables e below (T31.setTop (mkF m 65 #[.val (.long vv), .second] [(.int (((((((((1 : Int32) + (own_bi (¬ vv < (128 : Int64)))) + (own_bi (¬ vv < (16384 : Int64)))) + (own_bi (¬ vv < (2097152 : Int64)))) + (own_bi (¬ vv < (268435456 : Int64)))) + (own_bi (¬ vv < (34359738368 : Int64)))) + (own_bi (¬ vv < (4398046511104 : Int64)))) + (own_bi (¬ vv < (562949953421312 : Int64)))) + (own_bi (¬ vv < (72057594037927936 : Int64)))))])) _
    exact k
  obtain ⟨fs, hr, hrun, hended, hW, hsame⟩ := X31.leave (v := some (.int (((((((((1 : Int32) + (own_bi (¬ vv < (128 : Int64)))) + (own_bi (¬ vv < (16384 : Int64)))) + (own_bi (¬ vv < (2097152 : Int64)))) + (own_bi (¬ vv < (268435456 : Int64)))) + (own_bi (¬ vv < (34359738368 : Int64)))) + (own_bi (¬ vv < (4398046511104 : Int64)))) + (own_bi (¬ vv < (562949953421312 : Int64)))) + (own_bi (¬ vv < (72057594037927936 : Int64)))))) (fun h => by rw [Bd.returns] at h; cases h)
  refine ⟨_, _, pre33 _ ?_, hrun, hended, _, _, rfl, ?_, ⟨_, rfl⟩, hW, hsame.mono (by decide) (by decide)⟩
  · exact retOut X31 hx Bd.returns rfl (Or.inl ⟨rfl, by simp, _, rfl⟩) (hb hby d2_65) hr
  · show Q2 Z vv h0 n0 _ T31.heap _
    rw [heq31]
    exact ⟨rfl, N31, rfl⟩
theorem pd_l : parseMethodDescriptor "(J)I" = some ⟨[.long], some .int⟩ := by decide +kernel
theorem pd_mx : parseMethodDescriptor "(II)I" = some ⟨[.int, .int], some .int⟩ := by decide +kernel
theorem pn_law : plainName "com/example/byteweave/byteweave/keyed/VsuiLengthPinLaw" = true := by first | (simp [plainName, overriddenIn]; done) | decide +kernel
theorem ef_law (m : MethodId) (x0 : Int64) (s0 : Int32) (t0 : Int32) : entryFrame m #[(.long x0), (.int s0), (.int t0)] maxLocals = mkF m 0 #[.val (.long x0), .second, .val (.int s0), .val (.int t0), .unset, .unset, .unset, .unset, .unset, .unset, .unset, .unset] [] := by first | (simp [entryFrame, mkF, argsToLocals, Value.category, maxLocals]; done) | rfl
def Qlaw (Z : State) (x0 : Int64) (s0 : Int32) (t0 : Int32) (h0 : Heap) (n0 : Nat) (v : Option Value) (h : Heap) (L : List Loc) : Prop := v = some (.int (1 : Int32)) ∧ Fr n0 L
set_option maxRecDepth 65536 in
set_option maxHeartbeats 40000000 in
theorem rmlaw (l : Launch) (Z : State) (a0 : Array Value) (hw : ∀ d ∈ tables_1, d.before a0 Z = true) (ws : List Jvm.Cond) (x0 : Int64) (s0 : Int32) (t0 : Int32) (h0 : Heap) (n0 : Nat) (Z0 : n0 ≤ h0.size) :
    MetFree l x (head1 (Jvm.Cond.code x code maxLocals ret :: ws) room_1) (fun a U => a = #[(.long x0), (.int s0), (.int t0)] ∧ Z.Warmed39 U.vm ∧ U.heap = h0) (fun _ _ _ _ _ => True) (fun _ U o U' => ∃ v L, o = .returned v ∧ Qlaw Z x0 s0 t0 h0 n0 v U'.heap L ∧ FrameEnd U o U' L room_1.cells room_1.slots) := by
  refine MetFree.of_bodySF (plainFor_of_name pn_law) hisR ?_
  intro p e s m args below meth c s₁ Bd hml0 hP hK
  obtain ⟨rfl, hZ, hh⟩ := hP
  have hx := Bd.exec
  have hby := Bd.bytes
  have hml : c.maxLocals = 12 := hml0
  have hown : s.vm.findClass "com/example/byteweave/byteweave/keyed/VsuiLengthPinLaw" = some m.cls := findClass_of_methodNamed Bd.named
  have hnm := (name_of_methodNamed Bd.named Bd.method).1
  have X0 : Stand p l e room_1 s m #[(.long x0), (.int s0), (.int t0)] below meth c s₁ [] 0 0 := Stand.of_body Bd
  have e0 : s₁.heap = h0 := by rw [← hh, Bd.state]; rfl
  have N0 := Fr.nil n0
  have pre0 : ∀ t, Steps p.tables e below (s₁.setTop (mkF m 0 #[.val (.long x0), .second, .val (.int s0), .val (.int t0), .unset, .unset, .unset, .unset, .unset, .unset, .unset, .unset] [])) t → Steps p.tables e below (s₁.setTop (entryFrame m #[(.long x0), (.int s0), (.int t0)] maxLocals)) t := fun t k => castTop (ef_law m x0 s0 t0) k
  have pre1 : ∀ t, Steps p.tables e below (s₁.setTop (mkF m 12 #[.val (.long x0), .second, .val (.int s0), .val (.int t0), .val (.long (XT.ushrL (x0 &&& (9223372036854775807 : Int64)) (s0 &&& (63 : Int32)))), .second, .unset, .unset, .unset, .unset, .unset, .unset] [])) t → Steps p.tables e below (s₁.setTop (entryFrame m #[(.long x0), (.int s0), (.int t0)] maxLocals)) t := by
    intro t k
    refine pre0 t ?_
    refine XT.lloadN X0.here hx rfl (hb hby at_0) rfl ?_
    show Steps p.tables e below (s₁.setTop (mkF m 1 #[.val (.long x0), .second, .val (.int s0), .val (.int t0), .unset, .unset, .unset, .unset, .unset, .unset, .unset, .unset] [(.long x0)])) _
    refine Stand.ldc2J X0 hx hown (mvT hZ (hw _ (List.mem_of_getElem? (i := 0) rfl))) rfl (hb hby at_1) ?_
    show Steps p.tables e below (s₁.setTop (mkF m 4 #[.val (.long x0), .second, .val (.int s0), .val (.int t0), .unset, .unset, .unset, .unset, .unset, .unset, .unset, .unset] [(.long (9223372036854775807 : Int64)), (.long x0)])) _
    refine XT.land X0.here hx rfl (hb hby at_4) rfl ?_
    show Steps p.tables e below (s₁.setTop (mkF m 5 #[.val (.long x0), .second, .val (.int s0), .val (.int t0), .unset, .unset, .unset, .unset, .unset, .unset, .unset, .unset] [(.long (x0 &&& (9223372036854775807 : Int64)))])) _
    refine XS.iloadN X0.here hx rfl (hb hby at_5) rfl ?_
    show Steps p.tables e below (s₁.setTop (mkF m 6 #[.val (.long x0), .second, .val (.int s0), .val (.int t0), .unset, .unset, .unset, .unset, .unset, .unset, .unset, .unset] [(.int s0), (.long (x0 &&& (9223372036854775807 : Int64)))])) _
    refine XS.bipush X0.here hx rfl (hb hby at_6) ?_
    show Steps p.tables e below (s₁.setTop (mkF m 8 #[.val (.long x0), .second, .val (.int s0), .val (.int t0), .unset, .unset, .unset, .unset, .unset, .unset, .unset, .unset] [(.int (63 : Int32)), (.int s0), (.long (x0 &&& (9223372036854775807 : Int64)))])) _
    refine XS.iand X0.here hx rfl (hb hby at_8) rfl ?_
    show Steps p.tables e below (s₁.setTop (mkF m 9 #[.val (.long x0), .second, .val (.int s0), .val (.int t0), .unset, .unset, .unset, .unset, .unset, .unset, .unset, .unset] [(.int (s0 &&& (63 : Int32))), (.long (x0 &&& (9223372036854775807 : Int64)))])) _
    refine XT.lushr X0.here hx rfl (hb hby at_9) rfl ?_
    show Steps p.tables e below (s₁.setTop (mkF m 10 #[.val (.long x0), .second, .val (.int s0), .val (.int t0), .unset, .unset, .unset, .unset, .unset, .unset, .unset, .unset] [(.long (XT.ushrL (x0 &&& (9223372036854775807 : Int64)) (s0 &&& (63 : Int32))))])) _
    refine XT.lstore X0.here hx rfl (hb hby at_10) rfl (l' := #[.val (.long x0), .second, .val (.int s0), .val (.int t0), .val (.long (XT.ushrL (x0 &&& (9223372036854775807 : Int64)) (s0 &&& (63 : Int32)))), .second, .unset, .unset, .unset, .unset, .unset, .unset]) rfl ?_
    show Steps p.tables e below (s₁.setTop (mkF m 12 #[.val (.long x0), .second, .val (.int s0), .val (.int t0), .val (.long (XT.ushrL (x0 &&& (9223372036854775807 : Int64)) (s0 &&& (63 : Int32)))), .second, .unset, .unset, .unset, .unset, .unset, .unset] [])) _
    exact k
  obtain ⟨vv, hn_vv, pre2⟩ : ∃ vv : Int64, vv = (XT.ushrL (x0 &&& (9223372036854775807 : Int64)) (s0 &&& (63 : Int32))) ∧ ∀ t, Steps p.tables e below (s₁.setTop (mkF m 12 #[.val (.long x0), .second, .val (.int s0), .val (.int t0), .val (.long vv), .second, .unset, .unset, .unset, .unset, .unset, .unset] [])) t → Steps p.tables e below (s₁.setTop (entryFrame m #[(.long x0), (.int s0), (.int t0)] maxLocals)) t := ⟨_, rfl, pre1⟩
  have pre3 : ∀ t, Steps p.tables e below (s₁.setTop (mkF m 21 #[.val (.long x0), .second, .val (.int s0), .val (.int t0), .val (.long vv), .second, .val (.int ((t0 &&& (2147483647 : Int32)) % (9 : Int32))), .unset, .unset, .unset, .unset, .unset] [])) t → Steps p.tables e below (s₁.setTop (entryFrame m #[(.long x0), (.int s0), (.int t0)] maxLocals)) t := by
    intro t k
    refine pre2 t ?_
    refine XS.iloadN X0.here hx rfl (hb hby at_12) rfl ?_
    show Steps p.tables e below (s₁.setTop (mkF m 13 #[.val (.long x0), .second, .val (.int s0), .val (.int t0), .val (.long vv), .second, .unset, .unset, .unset, .unset, .unset, .unset] [(.int t0)])) _
    refine Stand.ldcI X0 hx hown (mvT hZ (hw _ (List.mem_of_getElem? (i := 1) rfl))) rfl (hb hby at_13) ?_
    show Steps p.tables e below (s₁.setTop (mkF m 15 #[.val (.long x0), .second, .val (.int s0), .val (.int t0), .val (.long vv), .second, .unset, .unset, .unset, .unset, .unset, .unset] [(.int (2147483647 : Int32)), (.int t0)])) _
    refine XS.iand X0.here hx rfl (hb hby at_15) rfl ?_
    show Steps p.tables e below (s₁.setTop (mkF m 16 #[.val (.long x0), .second, .val (.int s0), .val (.int t0), .val (.long vv), .second, .unset, .unset, .unset, .unset, .unset, .unset] [(.int (t0 &&& (2147483647 : Int32)))])) _
    refine XS.bipush X0.here hx rfl (hb hby at_16) ?_
    show Steps p.tables e below (s₁.setTop (mkF m 18 #[.val (.long x0), .second, .val (.int s0), .val (.int t0), .val (.long vv), .second, .unset, .unset, .unset, .unset, .unset, .unset] [(.int (9 : Int32)), (.int (t0 &&& (2147483647 : Int32)))])) _
    refine iremM X0 hx rfl (hb hby at_18) rfl (by decide) ?_
    show Steps p.tables e below (s₁.setTop (mkF m 19 #[.val (.long x0), .second, .val (.int s0), .val (.int t0), .val (.long vv), .second, .unset, .unset, .unset, .unset, .unset, .unset] [(.int ((t0 &&& (2147483647 : Int32)) % (9 : Int32)))])) _
    refine XS.istore X0.here hx rfl (hb hby at_19) rfl (l' := #[.val (.long x0), .second, .val (.int s0), .val (.int t0), .val (.long vv), .second, .val (.int ((t0 &&& (2147483647 : Int32)) % (9 : Int32))), .unset, .unset, .unset, .unset, .unset]) rfl ?_
    show Steps p.tables e below (s₁.setTop (mkF m 21 #[.val (.long x0), .second, .val (.int s0), .val (.int t0), .val (.long vv), .second, .val (.int ((t0 &&& (2147483647 : Int32)) % (9 : Int32))), .unset, .unset, .unset, .unset, .unset] [])) _
    exact k
  obtain ⟨kk, hn_kk, pre4⟩ : ∃ kk : Int32, kk = ((t0 &&& (2147483647 : Int32)) % (9 : Int32)) ∧ ∀ t, Steps p.tables e below (s₁.setTop (mkF m 21 #[.val (.long x0), .second, .val (.int s0), .val (.int t0), .val (.long vv), .second, .val (.int kk), .unset, .unset, .unset, .unset, .unset] [])) t → Steps p.tables e below (s₁.setTop (entryFrame m #[(.long x0), (.int s0), (.int t0)] maxLocals)) t := ⟨_, rfl, pre3⟩
  have pre5 : ∀ t, Steps p.tables e below (s₁.setTop (mkF m 30 #[.val (.long x0), .second, .val (.int s0), .val (.int t0), .val (.long vv), .second, .val (.int kk), .val (.long ((1 : Int64) <<< (((7 : Int32) * kk).toInt64 &&& 63))), .second, .unset, .unset, .unset] [])) t → Steps p.tables e below (s₁.setTop (entryFrame m #[(.long x0), (.int s0), (.int t0)] maxLocals)) t := by
    intro t k
    refine pre4 t ?_
    refine XT.lconst X0.here hx rfl (hb hby at_21) ?_
    show Steps p.tables e below (s₁.setTop (mkF m 22 #[.val (.long x0), .second, .val (.int s0), .val (.int t0), .val (.long vv), .second, .val (.int kk), .unset, .unset, .unset, .unset, .unset] [(.long (1 : Int64))])) _
    refine XS.bipush X0.here hx rfl (hb hby at_22) ?_
    show Steps p.tables e below (s₁.setTop (mkF m 24 #[.val (.long x0), .second, .val (.int s0), .val (.int t0), .val (.long vv), .second, .val (.int kk), .unset, .unset, .unset, .unset, .unset] [(.int (7 : Int32)), (.long (1 : Int64))])) _
    refine XS.iload X0.here hx rfl (hb hby at_24) rfl ?_
    show Steps p.tables e below (s₁.setTop (mkF m 26 #[.val (.long x0), .second, .val (.int s0), .val (.int t0), .val (.long vv), .second, .val (.int kk), .unset, .unset, .unset, .unset, .unset] [(.int kk), (.int (7 : Int32)), (.long (1 : Int64))])) _
    refine XS.imul X0.here hx rfl (hb hby at_26) rfl ?_
    show Steps p.tables e below (s₁.setTop (mkF m 27 #[.val (.long x0), .second, .val (.int s0), .val (.int t0), .val (.long vv), .second, .val (.int kk), .unset, .unset, .unset, .unset, .unset] [(.int ((7 : Int32) * kk)), (.long (1 : Int64))])) _
    refine XT.lshl X0.here hx rfl (hb hby at_27) rfl ?_
    show Steps p.tables e below (s₁.setTop (mkF m 28 #[.val (.long x0), .second, .val (.int s0), .val (.int t0), .val (.long vv), .second, .val (.int kk), .unset, .unset, .unset, .unset, .unset] [(.long ((1 : Int64) <<< (((7 : Int32) * kk).toInt64 &&& 63)))])) _
    refine XT.lstore X0.here hx rfl (hb hby at_28) rfl (l' := #[.val (.long x0), .second, .val (.int s0), .val (.int t0), .val (.long vv), .second, .val (.int kk), .val (.long ((1 : Int64) <<< (((7 : Int32) * kk).toInt64 &&& 63))), .second, .unset, .unset, .unset]) rfl ?_
    show Steps p.tables e below (s₁.setTop (mkF m 30 #[.val (.long x0), .second, .val (.int s0), .val (.int t0), .val (.long vv), .second, .val (.int kk), .val (.long ((1 : Int64) <<< (((7 : Int32) * kk).toInt64 &&& 63))), .second, .unset, .unset, .unset] [])) _
    exact k
  obtain ⟨bb, hn_bb, pre6⟩ : ∃ bb : Int64, bb = ((1 : Int64) <<< (((7 : Int32) * kk).toInt64 &&& 63)) ∧ ∀ t, Steps p.tables e below (s₁.setTop (mkF m 30 #[.val (.long x0), .second, .val (.int s0), .val (.int t0), .val (.long vv), .second, .val (.int kk), .val (.long bb), .second, .unset, .unset, .unset] [])) t → Steps p.tables e below (s₁.setTop (entryFrame m #[(.long x0), (.int s0), (.int t0)] maxLocals)) t := ⟨_, rfl, pre5⟩
  have hv : own_N vv < 2 ^ 63 := by rw [hn_vv]; exact own_vlt _ _
  have hk := own_k hn_kk
  rw [← hn_bb] at hk
  have hbs : own_N bb < 2 ^ 63 ∧ own_N (bb - 1) < 2 ^ 63 := by rw [hn_bb]; exact own_kb hn_kk
  have pre8 : ∀ t, Steps p.tables e below (s₁.setTop (mkF m 32 #[.val (.long x0), .second, .val (.int s0), .val (.int t0), .val (.long vv), .second, .val (.int kk), .val (.long bb), .second, .unset, .unset, .unset] [(.long vv)])) t → Steps p.tables e below (s₁.setTop (entryFrame m #[(.long x0), (.int s0), (.int t0)] maxLocals)) t := by
    intro t k
    refine pre6 t ?_
    refine XT.lload X0.here hx rfl (hb hby at_30) rfl ?_
    show Steps p.tables e below (s₁.setTop (mkF m 32 #[.val (.long x0), .second, .val (.int s0), .val (.int t0), .val (.long vv), .second, .val (.int kk), .val (.long bb), .second, .unset, .unset, .unset] [(.long vv)])) _
    exact k
  obtain ⟨_, _, ⟨T9, L9, k9, n9⟩, -, X9, ⟨Lc9, hQ9, l9, y9, z9⟩, st9⟩ := Jvm.LawKit.callS X0 hx (y := (⟨"com/example/byteweave/byteweave/keyed/Vsui", "length", "(J)I"⟩ : MethodName)) hown (mvT hZ (hw _ (List.mem_of_getElem? (i := 2) rfl))) (mvT hZ (hw _ (List.mem_of_getElem? (i := 3) rfl))) (mvT hZ (hw _ (List.mem_of_getElem? (i := 4) rfl))) (mvT hZ (hw _ (List.mem_of_getElem? (i := 5) rfl))) (by decide) (backOf (W := 0) (rm1 l Z a0 hw [] vv h0 n0 Z0 hv) hZ (hw _ (List.mem_of_getElem? (i := 5) rfl)) (hw _ (List.mem_of_getElem? (i := 4) rfl)) (by decide) (by decide)) (g := (mkF m 32 #[.val (.long x0), .second, .val (.int s0), .val (.int t0), .val (.long vv), .second, .val (.int kk), .val (.long bb), .second, .unset, .unset, .unset] [(.long vv)])) rfl (by rw [hml]; rfl) (argsL := [(.long vv)]) (rest := []) (lenOf pd_l rfl) rfl (by show 2 * 0 + _ ≤ _; exact Nat.le_of_eq rfl) (hb hby at_32) (fun _ _ => ⟨rfl, e0, (by decide : 0 + 0 ≤ _), (by decide : 0 + 0 ≤ _)⟩)
  dsimp only [Pt.U, Pt.locs, Pt.cells, Pt.slots] at X9 l9 y9 z9 st9 hQ9
  subst l9 y9 z9
  obtain ⟨rfl, Nq9, heq9⟩ := hQ9
  have N9 := Fr.app N0 Nq9
  have pre10 : ∀ t, Steps p.tables e below (T9.setTop (mkF m 35 #[.val (.long x0), .second, .val (.int s0), .val (.int t0), .val (.long vv), .second, .val (.int kk), .val (.long bb), .second, .unset, .unset, .unset] [(.int (own_len vv))])) t → Steps p.tables e below (s₁.setTop (entryFrame m #[(.long x0), (.int s0), (.int t0)] maxLocals)) t := fun t k => pre8 t (st9 t k)
  have pre12 : ∀ t, Steps p.tables e below (T9.setTop (mkF m 37 #[.val (.long x0), .second, .val (.int s0), .val (.int t0), .val (.long vv), .second, .val (.int kk), .val (.long bb), .second, .unset, .unset, .unset] [(.long vv), (.int (own_len vv))])) t → Steps p.tables e below (s₁.setTop (entryFrame m #[(.long x0), (.int s0), (.int t0)] maxLocals)) t := by
    intro t k
    refine pre10 t ?_
    refine XT.lload X9.here hx rfl (hb hby at_35) rfl ?_
    show Steps p.tables e below (T9.setTop (mkF m 37 #[.val (.long x0), .second, .val (.int s0), .val (.int t0), .val (.long vv), .second, .val (.int kk), .val (.long bb), .second, .unset, .unset, .unset] [(.long vv), (.int (own_len vv))])) _
    exact k
  obtain ⟨_, _, ⟨T13, L13, k13, n13⟩, -, X13, ⟨Lc13, hQ13, l13, y13, z13⟩, st13⟩ := Jvm.LawKit.callS X9 hx (y := (⟨"com/example/byteweave/byteweave/keyed/VsuiLengthPinLaw", "expected", "(J)I"⟩ : MethodName)) hown (mvT hZ (hw _ (List.mem_of_getElem? (i := 6) rfl))) (mvT hZ (hw _ (List.mem_of_getElem? (i := 7) rfl))) (mvT hZ (hw _ (List.mem_of_getElem? (i := 8) rfl))) (mvT hZ (hw _ (List.mem_of_getElem? (i := 9) rfl))) (by decide) (backOf (W := 1) (rm2 l Z a0 hw [] vv h0 n0 Z0) hZ (hw _ (List.mem_of_getElem? (i := 9) rfl)) (hw _ (List.mem_of_getElem? (i := 8) rfl)) (by decide) (by decide)) (g := (mkF m 37 #[.val (.long x0), .second, .val (.int s0), .val (.int t0), .val (.long vv), .second, .val (.int kk), .val (.long bb), .second, .unset, .unset, .unset] [(.long vv), (.int (own_len vv))])) rfl (by rw [hml]; rfl) (argsL := [(.long vv)]) (rest := [(.int (own_len vv))]) (lenOf pd_l rfl) rfl (by show 2 * 0 + _ ≤ _; exact Nat.le_of_eq rfl) (hb hby at_37) (fun _ _ => ⟨rfl, heq9, (by decide : 0 + 0 ≤ _), (by decide : 0 + 0 ≤ _)⟩)
  dsimp only [Pt.U, Pt.locs, Pt.cells, Pt.slots] at X13 l13 y13 z13 st13 hQ13
  subst l13 y13 z13
  obtain ⟨rfl, Nq13, heq13⟩ := hQ13
  have N13 := Fr.app N9 Nq13
  have pre14 : ∀ t, Steps p.tables e below (T13.setTop (mkF m 40 #[.val (.long x0), .second, .val (.int s0), .val (.int t0), .val (.long vv), .second, .val (.int kk), .val (.long bb), .second, .unset, .unset, .unset] [(.int (own_exp vv)), (.int (own_len vv))])) t → Steps p.tables e below (s₁.setTop (entryFrame m #[(.long x0), (.int s0), (.int t0)] maxLocals)) t := fun t k => pre12 t (st13 t k)
  have pre16 : ∀ t, Steps p.tables e below (T13.setTop (mkF m 52 #[.val (.long x0), .second, .val (.int s0), .val (.int t0), .val (.long vv), .second, .val (.int kk), .val (.long bb), .second, .val (.int (1 : Int32)), .unset, .unset] [(.long bb)])) t → Steps p.tables e below (s₁.setTop (entryFrame m #[(.long x0), (.int s0), (.int t0)] maxLocals)) t := by
    intro t k
    refine pre14 t ?_
    refine XS.icmpNo X13.here hx rfl (hb hby at_40) rfl (XT.ii_ne_f (own_count hv)) ?_
    show Steps p.tables e below (T13.setTop (mkF m 43 #[.val (.long x0), .second, .val (.int s0), .val (.int t0), .val (.long vv), .second, .val (.int kk), .val (.long bb), .second, .unset, .unset, .unset] [])) _
    refine XS.iconst X13.here hx rfl (hb hby at_43) ?_
    show Steps p.tables e below (T13.setTop (mkF m 44 #[.val (.long x0), .second, .val (.int s0), .val (.int t0), .val (.long vv), .second, .val (.int kk), .val (.long bb), .second, .unset, .unset, .unset] [(.int (1 : Int32))])) _
    refine XS.goto X13.here hx rfl (pc0 := 44) (pc' := 48) rfl (hb hby at_44) (by decide) (by decide) ?_
    show Steps p.tables e below (T13.setTop (mkF m 48 #[.val (.long x0), .second, .val (.int s0), .val (.int t0), .val (.long vv), .second, .val (.int kk), .val (.long bb), .second, .unset, .unset, .unset] [(.int (1 : Int32))])) _
    refine XS.istore X13.here hx rfl (hb hby at_48) rfl (l' := #[.val (.long x0), .second, .val (.int s0), .val (.int t0), .val (.long vv), .second, .val (.int kk), .val (.long bb), .second, .val (.int (1 : Int32)), .unset, .unset]) rfl ?_
    show Steps p.tables e below (T13.setTop (mkF m 50 #[.val (.long x0), .second, .val (.int s0), .val (.int t0), .val (.long vv), .second, .val (.int kk), .val (.long bb), .second, .val (.int (1 : Int32)), .unset, .unset] [])) _
    refine XT.lload X13.here hx rfl (hb hby at_50) rfl ?_
    show Steps p.tables e below (T13.setTop (mkF m 52 #[.val (.long x0), .second, .val (.int s0), .val (.int t0), .val (.long vv), .second, .val (.int kk), .val (.long bb), .second, .val (.int (1 : Int32)), .unset, .unset] [(.long bb)])) _
    exact k
  obtain ⟨_, _, ⟨T17, L17, k17, n17⟩, -, X17, ⟨Lc17, hQ17, l17, y17, z17⟩, st17⟩ := Jvm.LawKit.callS X13 hx (y := (⟨"com/example/byteweave/byteweave/keyed/Vsui", "length", "(J)I"⟩ : MethodName)) hown (mvT hZ (hw _ (List.mem_of_getElem? (i := 2) rfl))) (mvT hZ (hw _ (List.mem_of_getElem? (i := 3) rfl))) (mvT hZ (hw _ (List.mem_of_getElem? (i := 4) rfl))) (mvT hZ (hw _ (List.mem_of_getElem? (i := 5) rfl))) (by decide) (backOf (W := 0) (rm1 l Z a0 hw [] bb h0 n0 Z0 hbs.1) hZ (hw _ (List.mem_of_getElem? (i := 5) rfl)) (hw _ (List.mem_of_getElem? (i := 4) rfl)) (by decide) (by decide)) (g := (mkF m 52 #[.val (.long x0), .second, .val (.int s0), .val (.int t0), .val (.long vv), .second, .val (.int kk), .val (.long bb), .second, .val (.int (1 : Int32)), .unset, .unset] [(.long bb)])) rfl (by rw [hml]; rfl) (argsL := [(.long bb)]) (rest := []) (lenOf pd_l rfl) rfl (by show 2 * 0 + _ ≤ _; exact Nat.le_of_eq rfl) (hb hby at_52) (fun _ _ => ⟨rfl, heq13, (by decide : 0 + 0 ≤ _), (by decide : 0 + 0 ≤ _)⟩)
  dsimp only [Pt.U, Pt.locs, Pt.cells, Pt.slots] at X17 l17 y17 z17 st17 hQ17
  subst l17 y17 z17
  obtain ⟨rfl, Nq17, heq17⟩ := hQ17
  have N17 := Fr.app N13 Nq17
  have pre18 : ∀ t, Steps p.tables e below (T17.setTop (mkF m 55 #[.val (.long x0), .second, .val (.int s0), .val (.int t0), .val (.long vv), .second, .val (.int kk), .val (.long bb), .second, .val (.int (1 : Int32)), .unset, .unset] [(.int (own_len bb))])) t → Steps p.tables e below (s₁.setTop (entryFrame m #[(.long x0), (.int s0), (.int t0)] maxLocals)) t := fun t k => pre16 t (st17 t k)
  have pre20 : ∀ t, Steps p.tables e below (T17.setTop (mkF m 73 #[.val (.long x0), .second, .val (.int s0), .val (.int t0), .val (.long vv), .second, .val (.int kk), .val (.long bb), .second, .val (.int (1 : Int32)), .val (.int (1 : Int32)), .unset] [(.long (bb - (1 : Int64)))])) t → Steps p.tables e below (s₁.setTop (entryFrame m #[(.long x0), (.int s0), (.int t0)] maxLocals)) t := by
    intro t k
    refine pre18 t ?_
    refine XS.iload X17.here hx rfl (hb hby at_55) rfl ?_
    show Steps p.tables e below (T17.setTop (mkF m 57 #[.val (.long x0), .second, .val (.int s0), .val (.int t0), .val (.long vv), .second, .val (.int kk), .val (.long bb), .second, .val (.int (1 : Int32)), .unset, .unset] [(.int kk), (.int (own_len bb))])) _
    refine XS.iconst X17.here hx rfl (hb hby at_57) ?_
    show Steps p.tables e below (T17.setTop (mkF m 58 #[.val (.long x0), .second, .val (.int s0), .val (.int t0), .val (.long vv), .second, .val (.int kk), .val (.long bb), .second, .val (.int (1 : Int32)), .unset, .unset] [(.int (1 : Int32)), (.int kk), (.int (own_len bb))])) _
    refine XS.iadd X17.here hx rfl (hb hby at_58) rfl ?_
    show Steps p.tables e below (T17.setTop (mkF m 59 #[.val (.long x0), .second, .val (.int s0), .val (.int t0), .val (.long vv), .second, .val (.int kk), .val (.long bb), .second, .val (.int (1 : Int32)), .unset, .unset] [(.int (kk + (1 : Int32))), (.int (own_len bb))])) _
    refine XS.icmpNo X17.here hx rfl (hb hby at_59) rfl (XT.ii_ne_f hk.1) ?_
    show Steps p.tables e below (T17.setTop (mkF m 62 #[.val (.long x0), .second, .val (.int s0), .val (.int t0), .val (.long vv), .second, .val (.int kk), .val (.long bb), .second, .val (.int (1 : Int32)), .unset, .unset] [])) _
    refine XS.iconst X17.here hx rfl (hb hby at_62) ?_
    show Steps p.tables e below (T17.setTop (mkF m 63 #[.val (.long x0), .second, .val (.int s0), .val (.int t0), .val (.long vv), .second, .val (.int kk), .val (.long bb), .second, .val (.int (1 : Int32)), .unset, .unset] [(.int (1 : Int32))])) _
    refine XS.goto X17.here hx rfl (pc0 := 63) (pc' := 67) rfl (hb hby at_63) (by decide) (by decide) ?_
    show Steps p.tables e below (T17.setTop (mkF m 67 #[.val (.long x0), .second, .val (.int s0), .val (.int t0), .val (.long vv), .second, .val (.int kk), .val (.long bb), .second, .val (.int (1 : Int32)), .unset, .unset] [(.int (1 : Int32))])) _
    refine XS.istore X17.here hx rfl (hb hby at_67) rfl (l' := #[.val (.long x0), .second, .val (.int s0), .val (.int t0), .val (.long vv), .second, .val (.int kk), .val (.long bb), .second, .val (.int (1 : Int32)), .val (.int (1 : Int32)), .unset]) rfl ?_
    show Steps p.tables e below (T17.setTop (mkF m 69 #[.val (.long x0), .second, .val (.int s0), .val (.int t0), .val (.long vv), .second, .val (.int kk), .val (.long bb), .second, .val (.int (1 : Int32)), .val (.int (1 : Int32)), .unset] [])) _
    refine XT.lload X17.here hx rfl (hb hby at_69) rfl ?_
    show Steps p.tables e below (T17.setTop (mkF m 71 #[.val (.long x0), .second, .val (.int s0), .val (.int t0), .val (.long vv), .second, .val (.int kk), .val (.long bb), .second, .val (.int (1 : Int32)), .val (.int (1 : Int32)), .unset] [(.long bb)])) _
    refine XT.lconst X17.here hx rfl (hb hby at_71) ?_
    show Steps p.tables e below (T17.setTop (mkF m 72 #[.val (.long x0), .second, .val (.int s0), .val (.int t0), .val (.long vv), .second, .val (.int kk), .val (.long bb), .second, .val (.int (1 : Int32)), .val (.int (1 : Int32)), .unset] [(.long (1 : Int64)), (.long bb)])) _
    refine XT.lsub X17.here hx rfl (hb hby at_72) rfl ?_
    show Steps p.tables e below (T17.setTop (mkF m 73 #[.val (.long x0), .second, .val (.int s0), .val (.int t0), .val (.long vv), .second, .val (.int kk), .val (.long bb), .second, .val (.int (1 : Int32)), .val (.int (1 : Int32)), .unset] [(.long (bb - (1 : Int64)))])) _
    exact k
  obtain ⟨_, _, ⟨T21, L21, k21, n21⟩, -, X21, ⟨Lc21, hQ21, l21, y21, z21⟩, st21⟩ := Jvm.LawKit.callS X17 hx (y := (⟨"com/example/byteweave/byteweave/keyed/Vsui", "length", "(J)I"⟩ : MethodName)) hown (mvT hZ (hw _ (List.mem_of_getElem? (i := 2) rfl))) (mvT hZ (hw _ (List.mem_of_getElem? (i := 3) rfl))) (mvT hZ (hw _ (List.mem_of_getElem? (i := 4) rfl))) (mvT hZ (hw _ (List.mem_of_getElem? (i := 5) rfl))) (by decide) (backOf (W := 0) (rm1 l Z a0 hw [] (bb - (1 : Int64)) h0 n0 Z0 hbs.2) hZ (hw _ (List.mem_of_getElem? (i := 5) rfl)) (hw _ (List.mem_of_getElem? (i := 4) rfl)) (by decide) (by decide)) (g := (mkF m 73 #[.val (.long x0), .second, .val (.int s0), .val (.int t0), .val (.long vv), .second, .val (.int kk), .val (.long bb), .second, .val (.int (1 : Int32)), .val (.int (1 : Int32)), .unset] [(.long (bb - (1 : Int64)))])) rfl (by rw [hml]; rfl) (argsL := [(.long (bb - (1 : Int64)))]) (rest := []) (lenOf pd_l rfl) rfl (by show 2 * 0 + _ ≤ _; exact Nat.le_of_eq rfl) (hb hby at_73) (fun _ _ => ⟨rfl, heq17, (by decide : 0 + 0 ≤ _), (by decide : 0 + 0 ≤ _)⟩)
  dsimp only [Pt.U, Pt.locs, Pt.cells, Pt.slots] at X21 l21 y21 z21 st21 hQ21
  subst l21 y21 z21
  obtain ⟨rfl, Nq21, heq21⟩ := hQ21
  have N21 := Fr.app N17 Nq21
  have pre22 : ∀ t, Steps p.tables e below (T21.setTop (mkF m 76 #[.val (.long x0), .second, .val (.int s0), .val (.int t0), .val (.long vv), .second, .val (.int kk), .val (.long bb), .second, .val (.int (1 : Int32)), .val (.int (1 : Int32)), .unset] [(.int (own_len (bb - (1 : Int64))))])) t → Steps p.tables e below (s₁.setTop (entryFrame m #[(.long x0), (.int s0), (.int t0)] maxLocals)) t := fun t k => pre20 t (st21 t k)
  have pre24 : ∀ t, Steps p.tables e below (T21.setTop (mkF m 79 #[.val (.long x0), .second, .val (.int s0), .val (.int t0), .val (.long vv), .second, .val (.int kk), .val (.long bb), .second, .val (.int (1 : Int32)), .val (.int (1 : Int32)), .unset] [(.int kk), (.int (1 : Int32)), (.int (own_len (bb - (1 : Int64))))])) t → Steps p.tables e below (s₁.setTop (entryFrame m #[(.long x0), (.int s0), (.int t0)] maxLocals)) t := by
    intro t k
    refine pre22 t ?_
    refine XS.iconst X21.here hx rfl (hb hby at_76) ?_
    show Steps p.tables e below (T21.setTop (mkF m 77 #[.val (.long x0), .second, .val (.int s0), .val (.int t0), .val (.long vv), .second, .val (.int kk), .val (.long bb), .second, .val (.int (1 : Int32)), .val (.int (1 : Int32)), .unset] [(.int (1 : Int32)), (.int (own_len (bb - (1 : Int64))))])) _
    refine XS.iload X21.here hx rfl (hb hby at_77) rfl ?_
    show Steps p.tables e below (T21.setTop (mkF m 79 #[.val (.long x0), .second, .val (.int s0), .val (.int t0), .val (.long vv), .second, .val (.int kk), .val (.long bb), .second, .val (.int (1 : Int32)), .val (.int (1 : Int32)), .unset] [(.int kk), (.int (1 : Int32)), (.int (own_len (bb - (1 : Int64))))])) _
    exact k
  obtain ⟨_, _, ⟨T25, L25, k25, n25⟩, -, X25, ⟨Lc25, hQ25, l25, y25, z25⟩, st25⟩ := Jvm.LawKit.callS X21 hx (y := (⟨"java/lang/Math", "max", "(II)I"⟩ : MethodName)) hown (mvT hZ (hw _ (List.mem_of_getElem? (i := 21) rfl))) (mvT hZ (hw _ (List.mem_of_getElem? (i := 22) rfl))) (mvT hZ (hw _ (List.mem_of_getElem? (i := 23) rfl))) (mvT hZ (hw _ (List.mem_of_getElem? (i := 24) rfl))) (by decide) (backOf (W := 1) (rm4 l Z a0 hw [] (1 : Int32) kk h0 n0 Z0) hZ (hw _ (List.mem_of_getElem? (i := 24) rfl)) (hw _ (List.mem_of_getElem? (i := 23) rfl)) (by decide) (by decide)) (g := (mkF m 79 #[.val (.long x0), .second, .val (.int s0), .val (.int t0), .val (.long vv), .second, .val (.int kk), .val (.long bb), .second, .val (.int (1 : Int32)), .val (.int (1 : Int32)), .unset] [(.int kk), (.int (1 : Int32)), (.int (own_len (bb - (1 : Int64))))])) rfl (by rw [hml]; rfl) (argsL := [(.int (1 : Int32)), (.int kk)]) (rest := [(.int (own_len (bb - (1 : Int64))))]) (lenOf pd_mx rfl) rfl (by show 2 * 0 + _ ≤ _; exact Nat.le_of_eq rfl) (hb hby at_79) (fun _ _ => ⟨rfl, heq21, (by decide : 0 + 0 ≤ _), (by decide : 0 + 0 ≤ _)⟩)
  dsimp only [Pt.U, Pt.locs, Pt.cells, Pt.slots] at X25 l25 y25 z25 st25 hQ25
  subst l25 y25 z25
  obtain ⟨rfl, Nq25, heq25⟩ := hQ25
  have N25 := Fr.app N21 Nq25
  have pre26 : ∀ t, Steps p.tables e below (T25.setTop (mkF m 82 #[.val (.long x0), .second, .val (.int s0), .val (.int t0), .val (.long vv), .second, .val (.int kk), .val (.long bb), .second, .val (.int (1 : Int32)), .val (.int (1 : Int32)), .unset] [(.int (if (1 : Int32) < kk then kk else (1 : Int32))), (.int (own_len (bb - (1 : Int64))))])) t → Steps p.tables e below (s₁.setTop (entryFrame m #[(.long x0), (.int s0), (.int t0)] maxLocals)) t := fun t k => pre24 t (st25 t k)
  have pre27 : ∀ t, Steps p.tables e below (T25.setTop (mkF m 112 #[.val (.long x0), .second, .val (.int s0), .val (.int t0), .val (.long vv), .second, .val (.int kk), .val (.long bb), .second, .val (.int (1 : Int32)), .val (.int (1 : Int32)), .val (.int (1 : Int32))] [(.int (1 : Int32))])) t → Steps p.tables e below (s₁.setTop (entryFrame m #[(.long x0), (.int s0), (.int t0)] maxLocals)) t := by
    intro t k
    refine pre26 t ?_
    refine XS.icmpNo X25.here hx rfl (hb hby at_82) rfl (XT.ii_ne_f hk.2) ?_
    show Steps p.tables e below (T25.setTop (mkF m 85 #[.val (.long x0), .second, .val (.int s0), .val (.int t0), .val (.long vv), .second, .val (.int kk), .val (.long bb), .second, .val (.int (1 : Int32)), .val (.int (1 : Int32)), .unset] [])) _
    refine XS.iconst X25.here hx rfl (hb hby at_85) ?_
    show Steps p.tables e below (T25.setTop (mkF m 86 #[.val (.long x0), .second, .val (.int s0), .val (.int t0), .val (.long vv), .second, .val (.int kk), .val (.long bb), .second, .val (.int (1 : Int32)), .val (.int (1 : Int32)), .unset] [(.int (1 : Int32))])) _
    refine XS.goto X25.here hx rfl (pc0 := 86) (pc' := 90) rfl (hb hby at_86) (by decide) (by decide) ?_
    show Steps p.tables e below (T25.setTop (mkF m 90 #[.val (.long x0), .second, .val (.int s0), .val (.int t0), .val (.long vv), .second, .val (.int kk), .val (.long bb), .second, .val (.int (1 : Int32)), .val (.int (1 : Int32)), .unset] [(.int (1 : Int32))])) _
    refine XS.istore X25.here hx rfl (hb hby at_90) rfl (l' := #[.val (.long x0), .second, .val (.int s0), .val (.int t0), .val (.long vv), .second, .val (.int kk), .val (.long bb), .second, .val (.int (1 : Int32)), .val (.int (1 : Int32)), .val (.int (1 : Int32))]) rfl ?_
    show Steps p.tables e below (T25.setTop (mkF m 92 #[.val (.long x0), .second, .val (.int s0), .val (.int t0), .val (.long vv), .second, .val (.int kk), .val (.long bb), .second, .val (.int (1 : Int32)), .val (.int (1 : Int32)), .val (.int (1 : Int32))] [])) _
    refine XS.iload X25.here hx rfl (hb hby at_92) rfl ?_
    show Steps p.tables e below (T25.setTop (mkF m 94 #[.val (.long x0), .second, .val (.int s0), .val (.int t0), .val (.long vv), .second, .val (.int kk), .val (.long bb), .second, .val (.int (1 : Int32)), .val (.int (1 : Int32)), .val (.int (1 : Int32))] [(.int (1 : Int32))])) _
    refine XS.ifNo X25.here hx rfl (hb hby at_94) rfl (XT.i0_eq_f (by decide)) ?_
    show Steps p.tables e below (T25.setTop (mkF m 97 #[.val (.long x0), .second, .val (.int s0), .val (.int t0), .val (.long vv), .second, .val (.int kk), .val (.long bb), .second, .val (.int (1 : Int32)), .val (.int (1 : Int32)), .val (.int (1 : Int32))] [])) _
    refine XS.iload X25.here hx rfl (hb hby at_97) rfl ?_
    show Steps p.tables e below (T25.setTop (mkF m 99 #[.val (.long x0), .second, .val (.int s0), .val (.int t0), .val (.long vv), .second, .val (.int kk), .val (.long bb), .second, .val (.int (1 : Int32)), .val (.int (1 : Int32)), .val (.int (1 : Int32))] [(.int (1 : Int32))])) _
    refine XS.ifNo X25.here hx rfl (hb hby at_99) rfl (XT.i0_eq_f (by decide)) ?_
    show Steps p.tables e below (T25.setTop (mkF m 102 #[.val (.long x0), .second, .val (.int s0), .val (.int t0), .val (.long vv), .second, .val (.int kk), .val (.long bb), .second, .val (.int (1 : Int32)), .val (.int (1 : Int32)), .val (.int (1 : Int32))] [])) _
    refine XS.iload X25.here hx rfl (hb hby at_102) rfl ?_
    show Steps p.tables e below (T25.setTop (mkF m 104 #[.val (.long x0), .second, .val (.int s0), .val (.int t0), .val (.long vv), .second, .val (.int kk), .val (.long bb), .second, .val (.int (1 : Int32)), .val (.int (1 : Int32)), .val (.int (1 : Int32))] [(.int (1 : Int32))])) _
    refine XS.ifNo X25.here hx rfl (hb hby at_104) rfl (XT.i0_eq_f (by decide)) ?_
    show Steps p.tables e below (T25.setTop (mkF m 107 #[.val (.long x0), .second, .val (.int s0), .val (.int t0), .val (.long vv), .second, .val (.int kk), .val (.long bb), .second, .val (.int (1 : Int32)), .val (.int (1 : Int32)), .val (.int (1 : Int32))] [])) _
    refine XS.iconst X25.here hx rfl (hb hby at_107) ?_
    show Steps p.tables e below (T25.setTop (mkF m 108 #[.val (.long x0), .second, .val (.int s0), .val (.int t0), .val (.long vv), .second, .val (.int kk), .val (.long bb), .second, .val (.int (1 : Int32)), .val (.int (1 : Int32)), .val (.int (1 : Int32))] [(.int (1 : Int32))])) _
    refine XS.goto X25.here hx rfl (pc0 := 108) (pc' := 112) rfl (hb hby at_108) (by decide) (by decide) ?_
    show Steps p.tables e below (T25.setTop (mkF m 112 #[.val (.long x0), .second, .val (.int s0), .val (.int t0), .val (.long vv), .second, .val (.int kk), .val (.long bb), .second, .val (.int (1 : Int32)), .val (.int (1 : Int32)), .val (.int (1 : Int32))] [(.int (1 : Int32))])) _
    exact k
  obtain ⟨fs, hr, hrun, hended, hW, hsame⟩ := X25.leave (v := some (.int (1 : Int32))) (fun h => by rw [Bd.returns] at h; cases h)
  refine ⟨_, _, pre27 _ ?_, hrun, hended, _, _, rfl, ?_, ⟨_, rfl⟩, hW, hsame.mono (by decide) (by decide)⟩
  · exact retOut X25 hx Bd.returns rfl (Or.inl ⟨rfl, by simp, _, rfl⟩) (hb hby at_112) hr
  · show Qlaw Z x0 s0 t0 h0 n0 _ T25.heap _
    rw [heq25]
    exact ⟨rfl, N25⟩
set_option maxRecDepth 65536 in
set_option maxHeartbeats 40000000 in
theorem comes_1 {Post : Tables → Env → Array Value → State → Outcome → State → Prop} (hpost : ∀ tb e args s v u, (limb_1_1.after args s (.returned v) u = true ∧ limb_1_2.after args s (.returned v) u = true ∧ True) → FrameEnd s (.returned v) u (Jvm.fieldLocs frame_1_writes args s ++ Jvm.arrayLocs frame_1_arrays args s ++ Jvm.staticLocs frame_1_statics s) 0 0 → Post tb e args s (.returned v) u) :
    ArmFor flags0 classFile x code maxLocals ret World_1 tables_1 room_1 Calls_1 rest_1 Pre_1 Post := by
  intro l hfl _ _ p e ha hc hk s m args below hf hA hF happ hP
  obtain ⟨hcalls, hrest, hpre⟩ := hP
  obtain ⟨-, -, -, hnamed, -, -, -, hat⟩ := (Spec.applies_iff hf).mp happ
  obtain ⟨hg, hn⟩ := and_e (Cond.before_iff.mp (show (Jvm.Cond.and given_1 narrow_1).before args s = true from hpre))
  obtain ⟨gc, g0⟩ := and_e hg
  obtain ⟨w0, w1, w2, rfl⟩ : ∃ w0 w1 w2 : Value, args = #[w0, w1, w2] := by
    have hs : args.size = 3 := by simpa [Cond.value, given_1] using gc
    obtain ⟨L⟩ := args
    match L, hs with
    | [w0, w1, w2], _ => exact ⟨w0, w1, w2, rfl⟩
  have hw := fun d (hd : d ∈ tables_1) => atoms_spec (ws := Jvm.Cond.code x code maxLocals ret :: tables_1) hat d (List.mem_cons_of_mem _ hd)
  have hfit : Fit s := fun {y c} hc i hi => by
    obtain ⟨ha, rfl⟩ := Array.getElem?_eq_some_iff.mp hc
    have q := List.all_eq_true.mp ((Array.all_eq_true_iff_forall_mem.mp hF) _ (Array.getElem_mem ha)) i (List.mem_range.mpr hi)
    simpa [Array.getElem?_eq_getElem hi] using q
  obtain ⟨ga0, gb0⟩ := and_e g0
  obtain ⟨i0, ei0⟩ := isL_v ga0
  obtain rfl : w0 = (.long i0) := Option.some.inj ei0
  obtain ⟨ga1, gb1⟩ := and_e gb0
  obtain ⟨i1, ei1⟩ := is_v ga1
  obtain rfl : w1 = (.int i1) := Option.some.inj ei1
  obtain ⟨i2, ei2⟩ := is_v gb1
  obtain rfl : w2 = (.int i2) := Option.some.inj ei2
  obtain ⟨n, o, h1, h2, h3, _, L, rfl, ⟨rfl, N⟩, hq⟩ := rmlaw l s _ hw tables_1 i0 i1 i2 s.heap s.heap.size (Nat.le_refl _)  p e ha hc hk s m _ below hf ((Spec.applies_iff_loose hf).mp happ).1 ⟨rfl, State.Warmed39.refl s, rfl⟩ trivial
  refine ⟨n, _, h1, h2, h3, hpost _ _ _ _ _ _ ⟨Cond.after_iff.mpr rfl, Cond.after_iff.mpr (eq_i res_at (Term.int_eval (1)) rfl), trivial⟩ ⟨hq.1, hq.2.1, (hq.2.2.sift fun y hy => Or.inr (N y hy)).mono (by decide) (by decide)⟩⟩
theorem main_1_1 : Claimed_1_1 := comes_1 fun _ _ _ _ _ _ h hF => ⟨h.1, hF⟩
theorem main_1_2 : Claimed_1_2 := comes_1 fun _ _ _ _ _ _ h hF => ⟨h.2.1, hF⟩
end Jvm.Pilot.@@N@@
namespace Jvm.Pilot.@@N@@
open Jvm Jvm.ClassFile Sem Op Lib Jvm.Free Jvm.Stand Jvm.Pilot.@@N@@.Jvm.D
/-! MADE BY PROGRAM (witnessworld.py) out of the Statement's table words and the real class files: 10 classes; the members and pool entries that the words name. The judged class is class 1, her method 3. -/
namespace start1
open Jvm.ClassFile
def u (s : String) : CpInfo := .utf8 (stringToUtf16 s)
/-- a pool by its gaps: so many unusable entries, then the entry; so many at the end -/
def gap : Nat → List CpInfo → List CpInfo
  | 0, r => r
  | n + 1, r => .unusable :: gap n r
def poolList (es : List (Nat × CpInfo)) (last : Nat) : List CpInfo := es.foldr (fun e r => gap e.1 (e.2 :: r)) (gap last [])
def pool (es : List (Nat × CpInfo)) (last : Nat) : Array CpInfo := ⟨poolList es last⟩
def fileOf (pool : Array CpInfo) (this : Nat) (attrs : Array Attribute := #[]) (ms : Array MethodInfo := #[]) (fl : Nat := 33) (sup : Nat := 0) (ifs : Array Nat := #[]) (fds : Array FieldInfo := #[]) : ClassFile where
  minorVersion := 0
  majorVersion := 65
  constantPool := pool
  accessFlags := fl
  thisClass := this
  superClass := sup
  interfaces := ifs
  fields := fds
  methods := ms
  attributes := attrs
def plain (name : String) (sup : Option ClassId) : Class where
  name := name
  kind := .ordinary
  loader := none
  accessFlags := 33
  super := sup
  interfaces := #[]
  cf := none
  fields := #[]
  methods := #[]
  instanceTypes := #[]
  staticTypes := #[]
  resolved := #[]
  callSites := []
  init := .initialized
  statics := none
  mirror := none

def pool0 : Array CpInfo := pool [(5, u "<init>"), (0, u "()V"), (1, .class_ 10), (1, u "java/lang/Object")] 113

def k0m0 : Method := { name := "<init>", desc := "()V", sig := { parameters := [], returnType := none }, accessFlags := 1, code := none }
/-- java/lang/Object -/
def k0 : Class := { plain "java/lang/Object" none with
  accessFlags := 33
  interfaces := #[]
  cf := some (fileOf pool0 8 #[] #[{ accessFlags := 1, nameIndex := 5, descriptorIndex := 6, attributes := #[] }] 33 0 #[] #[])
  fields := #[]
  methods := #[k0m0]
  instanceTypes := #[]
  staticTypes := #[]
  resolved := Array.replicate 124 none
  statics := none }

def pool1 : Array CpInfo := pool [(2, .class_ 4), (1, u "java/lang/Object"), (0, u "<init>"), (0, u "()V"), (0, .long 128), (1, .methodref 10 11), (0, .class_ 12), (0, .nameAndType 13 14), (0, u "com/example/byteweave/byteweave/keyed/VsuiLengthPinLaw"), (0, u "reach"), (0, u "(JJ)I"), (0, .long 16384), (1, .long 2097152), (1, .long 268435456), (1, .long 34359738368), (1, .long 4398046511104), (1, .long 562949953421312), (1, .long 72057594037927936), (3, .long 9223372036854775807), (1, .integer 2147483647), (0, .methodref 35 36), (0, .class_ 37), (0, .nameAndType 38 39), (0, u "com/example/byteweave/byteweave/keyed/Vsui"), (0, u "length"), (0, u "(J)I"), (0, .methodref 10 41), (0, .nameAndType 42 39), (0, u "expected"), (0, .methodref 44 45), (0, .class_ 46), (0, .nameAndType 47 48), (0, u "java/lang/Math"), (0, u "max"), (0, u "(II)I"), (3, u "law"), (0, u "(JII)Z")] 2

def k1m0 : Method := { name := "<init>", desc := "()V", sig := { parameters := [], returnType := none }, accessFlags := 2, code := none }
def k1c1 : Code := { maxStack := 4, maxLocals := 4, code := method_2_code, exceptionTable := #[], attributes := #[] }
def k1m1 : Method := { name := "reach", desc := "(JJ)I", sig := { parameters := [.long, .long], returnType := some .int }, accessFlags := 10, code := some k1c1 }
def k1c2 : Code := { maxStack := 5, maxLocals := 2, code := method_3_code, exceptionTable := #[], attributes := #[] }
def k1m2 : Method := { name := "expected", desc := "(J)I", sig := { parameters := [.long], returnType := some .int }, accessFlags := 10, code := some k1c2 }
def k1c3 : Code := { maxStack := 4, maxLocals := 12, code := code, exceptionTable := #[], attributes := #[] }
def k1m3 : Method := { name := "law", desc := "(JII)Z", sig := { parameters := [.long, .int, .int], returnType := some .boolean }, accessFlags := 9, code := some k1c3 }
/-- com/example/byteweave/byteweave/keyed/VsuiLengthPinLaw -/
def k1 : Class := { plain "com/example/byteweave/byteweave/keyed/VsuiLengthPinLaw" (some 0) with
  accessFlags := 49
  interfaces := #[]
  cf := some (fileOf pool1 10 #[] #[{ accessFlags := 2, nameIndex := 5, descriptorIndex := 6, attributes := #[] }, { accessFlags := 10, nameIndex := 13, descriptorIndex := 14, attributes := #[] }, { accessFlags := 10, nameIndex := 42, descriptorIndex := 39, attributes := #[] }, { accessFlags := 9, nameIndex := 52, descriptorIndex := 53, attributes := #[] }] 49 2 #[] #[])
  fields := #[]
  methods := #[k1m0, k1m1, k1m2, k1m3]
  instanceTypes := #[]
  staticTypes := #[]
  resolved := Array.replicate 56 none
  statics := none }

def pool2 : Array CpInfo := pool [(2, .class_ 4), (1, u "java/lang/Object"), (0, u "<init>"), (0, u "()V"), (24, .class_ 33), (1, u "com/example/byteweave/byteweave/keyed/Vsui"), (0, u "length"), (0, u "(J)I")] 33

def k2m0 : Method := { name := "<init>", desc := "()V", sig := { parameters := [], returnType := none }, accessFlags := 2, code := none }
def k2c1 : Code := { maxStack := 4, maxLocals := 5, code := prog_18_method_4_code, exceptionTable := #[], attributes := #[] }
def k2m1 : Method := { name := "length", desc := "(J)I", sig := { parameters := [.long], returnType := some .int }, accessFlags := 8, code := some k2c1 }
/-- com/example/byteweave/byteweave/keyed/Vsui -/
def k2 : Class := { plain "com/example/byteweave/byteweave/keyed/Vsui" (some 0) with
  accessFlags := 48
  interfaces := #[]
  cf := some (fileOf pool2 31 #[] #[{ accessFlags := 2, nameIndex := 5, descriptorIndex := 6, attributes := #[] }, { accessFlags := 8, nameIndex := 34, descriptorIndex := 35, attributes := #[] }] 48 2 #[] #[])
  fields := #[]
  methods := #[k2m0, k2m1]
  instanceTypes := #[]
  staticTypes := #[]
  resolved := Array.replicate 69 none
  statics := none }

def pool3 : Array CpInfo := pool [(1, .class_ 2), (0, u "java/lang/Math"), (1, .class_ 6), (1, u "java/lang/Object"), (0, u "<init>"), (0, u "()V"), (89, .class_ 100), (1, u "java/lang/Math$RandomNumberGeneratorHolder"), (71, u "negativeZeroFloatBits"), (0, u "J"), (2, u "negativeZeroDoubleBits"), (21, u "max"), (46, u "$assertionsDisabled"), (0, u "Z"), (88, u "(II)I"), (2, u "twoToTheDoubleScaleDown"), (0, u "D"), (4, u "twoToTheDoubleScaleUp"), (9, u "E"), (3, u "PI"), (2, u "TAU"), (2, u "DEGREES_TO_RADIANS"), (0, u "RADIANS_TO_DEGREES")] 94

def k3m0 : Method := { name := "<init>", desc := "()V", sig := { parameters := [], returnType := none }, accessFlags := 2, code := none }
def k3c1 : Code := { maxStack := 2, maxLocals := 2, code := jdk_29_method_65_code, exceptionTable := #[], attributes := #[] }
def k3m1 : Method := { name := "max", desc := "(II)I", sig := { parameters := [.int, .int], returnType := some .int }, accessFlags := 9, code := some k3c1 }
/-- java/lang/Math -/
def k3 : Class := { plain "java/lang/Math" (some 0) with
  accessFlags := 49
  interfaces := #[]
  cf := some (fileOf pool3 1 #[.nestMembers #[98]] #[{ accessFlags := 2, nameIndex := 7, descriptorIndex := 8, attributes := #[] }, { accessFlags := 9, nameIndex := 198, descriptorIndex := 335, attributes := #[] }] 49 4 #[] #[{ accessFlags := 25, nameIndex := 354, descriptorIndex := 339, attributes := #[] }, { accessFlags := 25, nameIndex := 358, descriptorIndex := 339, attributes := #[] }, { accessFlags := 25, nameIndex := 361, descriptorIndex := 339, attributes := #[] }, { accessFlags := 26, nameIndex := 364, descriptorIndex := 339, attributes := #[] }, { accessFlags := 26, nameIndex := 365, descriptorIndex := 339, attributes := #[] }, { accessFlags := 26, nameIndex := 172, descriptorIndex := 173, attributes := #[] }, { accessFlags := 26, nameIndex := 176, descriptorIndex := 173, attributes := #[] }, { accessFlags := 8, nameIndex := 344, descriptorIndex := 339, attributes := #[] }, { accessFlags := 8, nameIndex := 338, descriptorIndex := 339, attributes := #[] }, { accessFlags := 4120, nameIndex := 245, descriptorIndex := 246, attributes := #[] }])
  fields := #[{ name := "E", type := .double, accessFlags := 25, slot := 0, constantValue := 0 }, { name := "PI", type := .double, accessFlags := 25, slot := 1, constantValue := 0 }, { name := "TAU", type := .double, accessFlags := 25, slot := 2, constantValue := 0 }, { name := "DEGREES_TO_RADIANS", type := .double, accessFlags := 26, slot := 3, constantValue := 0 }, { name := "RADIANS_TO_DEGREES", type := .double, accessFlags := 26, slot := 4, constantValue := 0 }, { name := "negativeZeroFloatBits", type := .long, accessFlags := 26, slot := 5, constantValue := 0 }, { name := "negativeZeroDoubleBits", type := .long, accessFlags := 26, slot := 6, constantValue := 0 }, { name := "twoToTheDoubleScaleUp", type := .double, accessFlags := 8, slot := 7, constantValue := 0 }, { name := "twoToTheDoubleScaleDown", type := .double, accessFlags := 8, slot := 8, constantValue := 0 }, { name := "$assertionsDisabled", type := .boolean, accessFlags := 4120, slot := 9, constantValue := 0 }]
  methods := #[k3m0, k3m1]
  instanceTypes := #[]
  staticTypes := #[.double, .double, .double, .double, .double, .long, .long, .double, .double, .boolean]
  resolved := Array.replicate 460 none
  statics := none }

def pool4 : Array CpInfo := pool [(1, u "java/lang/Cloneable"), (0, .class_ 1), (0, u "java/lang/Object"), (0, .class_ 3)] 3

/-- java/lang/Cloneable -/
def k4 : Class := { plain "java/lang/Cloneable" (some 0) with
  accessFlags := 1537
  interfaces := #[]
  cf := some (fileOf pool4 2 #[] #[] 1537 4 #[] #[])
  fields := #[]
  methods := #[]
  instanceTypes := #[]
  staticTypes := #[]
  resolved := Array.replicate 8 none
  statics := none }

def pool5 : Array CpInfo := pool [(1, u "java/io/Serializable"), (0, .class_ 1), (0, u "java/lang/Object"), (0, .class_ 3)] 3

/-- java/io/Serializable -/
def k5 : Class := { plain "java/io/Serializable" (some 0) with
  accessFlags := 1537
  interfaces := #[]
  cf := some (fileOf pool5 2 #[] #[] 1537 4 #[] #[])
  fields := #[]
  methods := #[]
  instanceTypes := #[]
  staticTypes := #[]
  resolved := Array.replicate 8 none
  statics := none }

/-- the primitive byte -/
def k6 : Class := { plain "byte" none with kind := .primitive 'B', accessFlags := 0x411 }
/-- [B -/
def k7 : Class := { plain "[B" (some 0) with kind := .array 6 .byte, interfaces := #[4, 5], accessFlags := 1041 }

/-- the primitive int -/
def k8 : Class := { plain "int" none with kind := .primitive 'I', accessFlags := 0x411 }
/-- [I -/
def k9 : Class := { plain "[I" (some 0) with kind := .array 8 .int, interfaces := #[4, 5], accessFlags := 1041 }

def heap : Heap := #[]
def classes : Array Class := #[k0, k1, k2, k3, k4, k5, k6, k7, k8, k9]
def interned : List (Array UInt16 × Addr) := []
def slotsUsed : Nat := 0
def theMethod : MethodId := ⟨1, 3⟩
def args0 : Array Value := #[.long 7, .int 3, .int 4]
def aboutOver (below : List Frame) : State where
  vm := { classes := classes, interned := interned.toArray }
  heap := heap
  slotsUsed := slotsUsed
  threads := #[{ frames := .invoking theMethod args0 :: below }]
def below0 : List Frame := [.native { method := ⟨0, 0⟩, args := #[] }]
def about1 : State := aboutOver below0
def p0 : Program := .bare "" "" ""
def e0 : Env := launch0.env 0 0 0
theorem w_frames : about1.frames = Frame.invoking theMethod args0 :: below0 := rfl
set_option maxRecDepth 65536 in
theorem w_args : argsFit about1.vm theMethod args0 = true := by decide +kernel
set_option maxRecDepth 65536 in
theorem w_heap : heapFits about1 = true := by decide +kernel
set_option maxRecDepth 65536 in
theorem w_runnable : about1.curStatus? = some .runnable := by decide +kernel
set_option maxRecDepth 65536 in
theorem w_alone : about1.alone = true := by decide +kernel
set_option maxRecDepth 65536 in
theorem w_named : about1.methodNamed? x = some theMethod := by decide +kernel
set_option maxRecDepth 65536 in
theorem w_hears : about1.hears theMethod below0 = true := by decide +kernel
set_option maxRecDepth 65536 in
theorem w_ripe : about1.ripe theMethod args0 below0 = true := by decide +kernel
theorem w_running : about1.status = .running := rfl
set_option maxRecDepth 65536 in
theorem w_room : about1.hasRoom e0.platform room_1 = true :=
  launch0.hasRoom_least _ room_1 (by decide +kernel) (by decide +kernel) (by decide +kernel) (by decide +kernel) (by decide +kernel) (by decide +kernel)
theorem allAtoms_all (ts : List Jvm.Cond) (a : Array Jvm.Value) (st : Jvm.State) : (allAtoms ts).before a st = ts.all (fun c => c.before a st) := by
  induction ts with
  | nil => rfl
  | cons c t ih =>
    show (Jvm.Cond.and c (allAtoms t)).before a st = _
    rw [Jvm.Cond.before_and, ih, List.all_cons]
def words1 : List Jvm.Cond := Jvm.Cond.code x code maxLocals ret :: tables_1
/-- a 'code' word, met by the world's own term for the bytes: nothing is compared byte by byte -/
theorem code_word {y : MethodName} {bytes : ByteArray} {mx : Nat} {rt : Option FieldType} {a : Array Value} {s : State} {m : MethodId} {meth : Method} {c : Code} (h1 : s.methodNamed? y = some m) (h2 : s.vm.method? m = some meth) (h3 : meth.code = some c) (h4 : c.code = bytes)
    (h5 : (c.maxLocals == mx && c.exceptionTable.isEmpty && decide (c.maxStack ≤ mostOperands) && decide (meth.sig.returnType = rt) && !meth.locks && decide (parseMethodDescriptor y.desc = some meth.sig)) = true) : (Jvm.Cond.code y bytes mx rt).before a s = true := by
  simp only [Bool.and_eq_true, beq_iff_eq, Bool.not_eq_true', decide_eq_true_eq] at h5
  obtain ⟨⟨⟨⟨⟨g1, g2⟩, g3⟩, g4⟩, g5⟩, g6⟩ := h5
  simp [Cond.before, Cond.holds, Cond.value, h1, h2, h3, h4, g1, g2, g3, g4, g5, g6]
def isCode : Jvm.Cond → Bool
  | .code _ _ _ _ => true
  | _ => false
theorem all_split {L : List Jvm.Cond} {P : Jvm.Cond → Bool} (h1 : L.all (fun c => isCode c || P c) = true) (h2 : ∀ c ∈ L.filter isCode, P c = true) : L.all P = true := by
  refine List.all_eq_true.mpr fun c hc => ?_
  have h := List.all_eq_true.mp h1 c hc
  rcases Bool.eq_false_or_eq_true (isCode c) with hi | hi
  · exact h2 c (List.mem_filter.mpr ⟨hc, hi⟩)
  · simpa [hi] using h
set_option maxRecDepth 65536 in
theorem w_c0 : (Jvm.Cond.code x code maxLocals ret).before args0 about1 = true := code_word (m := ⟨1, 3⟩) (meth := k1m3) (c := k1c3) (by decide +kernel) rfl rfl rfl (by decide +kernel)
set_option maxRecDepth 65536 in
theorem w_c1 : (Jvm.Cond.code ({ cls := "com/example/byteweave/byteweave/keyed/Vsui", name := "length", desc := "(J)I" } : Jvm.MethodName) prog_18_method_4_code (5 : Nat) (Option.some Jvm.ClassFile.FieldType.int)).before args0 about1 = true := code_word (m := ⟨2, 1⟩) (meth := k2m1) (c := k2c1) (by decide +kernel) rfl rfl rfl (by decide +kernel)
set_option maxRecDepth 65536 in
theorem w_c2 : (Jvm.Cond.code ({ cls := "com/example/byteweave/byteweave/keyed/VsuiLengthPinLaw", name := "expected", desc := "(J)I" } : Jvm.MethodName) method_3_code (2 : Nat) (Option.some Jvm.ClassFile.FieldType.int)).before args0 about1 = true := code_word (m := ⟨1, 2⟩) (meth := k1m2) (c := k1c2) (by decide +kernel) rfl rfl rfl (by decide +kernel)
set_option maxRecDepth 65536 in
theorem w_c3 : (Jvm.Cond.code ({ cls := "com/example/byteweave/byteweave/keyed/VsuiLengthPinLaw", name := "reach", desc := "(JJ)I" } : Jvm.MethodName) method_2_code (4 : Nat) (Option.some Jvm.ClassFile.FieldType.int)).before args0 about1 = true := code_word (m := ⟨1, 1⟩) (meth := k1m1) (c := k1c1) (by decide +kernel) rfl rfl rfl (by decide +kernel)
set_option maxRecDepth 65536 in
theorem w_c4 : (Jvm.Cond.code ({ cls := "java/lang/Math", name := "max", desc := "(II)I" } : Jvm.MethodName) jdk_29_method_65_code (2 : Nat) (Option.some Jvm.ClassFile.FieldType.int)).before args0 about1 = true := code_word (m := ⟨3, 1⟩) (meth := k3m1) (c := k3c1) (by decide +kernel) rfl rfl rfl (by decide +kernel)
def codes1 : List Jvm.Cond := [Jvm.Cond.code x code maxLocals ret, Jvm.Cond.code ({ cls := "com/example/byteweave/byteweave/keyed/Vsui", name := "length", desc := "(J)I" } : Jvm.MethodName) prog_18_method_4_code (5 : Nat) (Option.some Jvm.ClassFile.FieldType.int), Jvm.Cond.code ({ cls := "com/example/byteweave/byteweave/keyed/VsuiLengthPinLaw", name := "expected", desc := "(J)I" } : Jvm.MethodName) method_3_code (2 : Nat) (Option.some Jvm.ClassFile.FieldType.int), Jvm.Cond.code ({ cls := "com/example/byteweave/byteweave/keyed/VsuiLengthPinLaw", name := "reach", desc := "(JJ)I" } : Jvm.MethodName) method_2_code (4 : Nat) (Option.some Jvm.ClassFile.FieldType.int), Jvm.Cond.code ({ cls := "java/lang/Math", name := "max", desc := "(II)I" } : Jvm.MethodName) jdk_29_method_65_code (2 : Nat) (Option.some Jvm.ClassFile.FieldType.int)]
set_option maxRecDepth 65536 in
theorem codes_eq : words1.filter isCode = codes1 := rfl
theorem w_codes : ∀ c ∈ words1.filter isCode, c.before args0 about1 = true := by
  rw [codes_eq]
  intro c hc
  simp only [codes1, List.mem_cons, List.not_mem_nil, or_false] at hc
  rcases hc with rfl | rfl | rfl | rfl | rfl
  · exact w_c0
  · exact w_c1
  · exact w_c2
  · exact w_c3
  · exact w_c4
set_option maxRecDepth 65536 in
theorem w_t1 : (words1.take 24).all (fun c => isCode c || c.before args0 about1) = true := by decide +kernel
set_option maxRecDepth 65536 in
theorem w_t2 : (words1.drop 24).all (fun c => isCode c || c.before args0 about1) = true := by decide +kernel
theorem w_tables : (allAtoms (Jvm.Cond.code x code maxLocals ret :: tables_1)).before args0 about1 = true := by
  rw [allAtoms_all]
  show words1.all (fun c => c.before args0 about1) = true
  refine all_split ?_ w_codes
  rw [← List.take_append_drop 24 words1, List.all_append, w_t1, w_t2]
  rfl
set_option maxRecDepth 65536 in
theorem w_case : (Jvm.Cond.and given_1 narrow_1).before args0 about1 = true := by decide +kernel
theorem w_applies : (headSpec (Jvm.Cond.code x code maxLocals ret :: tables_1) room_1).applies x e0.platform about1 = true :=
  (Spec.applies_iff w_frames).mpr ⟨w_running, w_runnable, w_alone, w_named, w_hears, w_ripe, w_room, w_tables⟩
theorem atStart : AtStart classFile x code maxLocals ret World_1 tables_1 room_1 Calls_1 rest_1 Pre_1 launch0 p0 e0 about1 theMethod args0 below0 :=
  ⟨lists_1, trivial, launch0.admits_env _ _ _, launch0.least_env, fairChoices_fair.cas, fairChoices_fair.clock, w_frames, w_args, w_heap, w_applies, trivial, trivial, w_case⟩
end start1
theorem witness_1 : WitnessClaimed_1 := ⟨start1.p0, start1.e0, start1.about1, start1.theMethod, start1.args0, start1.below0, start1.atStart⟩
end Jvm.Pilot.@@N@@
