import JvmDerived
import JvmDerived.Pilot.@@N@@Statement
import JvmDerived.Pilot.@@N@@Code
set_option linter.unusedVariables false
set_option linter.unusedSimpArgs false
namespace Jvm.Pilot.@@N@@
open Jvm Jvm.ClassFile Sem Op Lib Jvm.Free Jvm.Stand Jvm.LawKit Jvm.RoadKit Bundle Jvm.Pilot.@@N@@.Jvm.D
def own_bi (P : Prop) [Decidable P] : Int32 := if P then 1 else 0
theorem own_bi_t {P : Prop} [Decidable P] (h : P) : own_bi P = 1 := if_pos h
theorem own_bi_f {P : Prop} [Decidable P] (h : ¬ P) : own_bi P = 0 := if_neg h
theorem own_bi_01 (P : Prop) [Decidable P] : own_bi P = 0 ∨ own_bi P = 1 := by by_cases h : P <;> simp [own_bi, h]
theorem own_bi_eq {P Q : Prop} [Decidable P] [Decidable Q] (h : P ↔ Q) : own_bi P = own_bi Q := by by_cases q : P <;> simp [own_bi, q, ← h]
theorem own_bi_iff (P : Prop) [Decidable P] : own_bi P = 1 ↔ P := by by_cases q : P <;> simp [own_bi, q]
theorem own_bi_ne (P : Prop) [Decidable P] : own_bi P = 0 ↔ ¬ P := by by_cases q : P <;> simp [own_bi, q]
theorem own_ofNat {n : Nat} (h : n < 2147483648) : (Int32.ofNat n).toInt = (n : Int) := len_toInt h
theorem own_narZ {z : Int32} (h : z = 0 ∨ z = 1) : narrow .boolean (.int z) = .int z := by rcases h with rfl | rfl <;> rfl
def own_rows (vs ud : List Value) (x y w r : Nat) : Prop := ud.length = 48 ∧ ∀ t, t < r → ∀ j, j < 4 * w → ud.getD (t * (4 * w) + j) (.int (0 : Int32)) = vs.getD (((y + t) * 4 + x) * 4 + j) (.int (0 : Int32))
theorem own_rows0 (vs : List Value) (x y w : Nat) : own_rows vs (List.replicate 48 (.int (0 : Int32))) x y w 0 := ⟨List.length_replicate, fun t h => absurd h (Nat.not_lt_zero t)⟩
theorem own_step {vs ud : List Value} {x y w r sp dp n : Nat} (R : own_rows vs ud x y w r) (e1 : sp = ((y + r) * 4 + x) * 4) (e2 : dp = r * (4 * w)) (e3 : n = 4 * w) (hl : dp + n ≤ 48) :
    own_rows vs (ud.take dp ++ (List.range n).map (fun i => vs.getD (sp + i) (.int (0 : Int32))) ++ ud.drop (dp + n)) x y w (r + 1) := by
  obtain ⟨L, H⟩ := R
  subst e1 e3
  have lt : (ud.take dp).length = dp := by rw [List.length_take]; omega
  refine ⟨?_, fun t ht j hj => ?_⟩
  · simp only [List.length_append, List.length_map, List.length_range, List.length_drop, lt, L]; omega
  · simp only [List.getD_eq_getElem?_getD]
    by_cases q : t = r
    · subst q
      rw [List.getElem?_append_left (by simp only [List.length_append, List.length_map, List.length_range, lt]; omega), List.getElem?_append_right (by omega), lt, ← e2, Nat.add_sub_cancel_left]
      simp [hj]
    · have ht' : t < r := by omega
      have m : t * (4 * w) + 4 * w ≤ r * (4 * w) := by
        have := Nat.mul_le_mul_right (4 * w) (show t + 1 ≤ r by omega)
        rw [Nat.add_mul, Nat.one_mul] at this
        exact this
      rw [List.append_assoc, List.getElem?_append_left (by omega), List.getElem?_take_of_lt (by omega)]
      have := H t ht' j hj
      simp only [List.getD_eq_getElem?_getD] at this
      exact this
def own_src (q : Int32) : List Value := [.int (nar .byte (q.toInt8.toInt32)), .int (nar .byte ((q + (1 : Int32)).toInt8.toInt32)), .int (nar .byte ((q + (2 : Int32)).toInt8.toInt32)), .int (nar .byte ((q + (3 : Int32)).toInt8.toInt32)), .int (nar .byte ((q + (4 : Int32)).toInt8.toInt32)), .int (nar .byte ((q + (5 : Int32)).toInt8.toInt32)), .int (nar .byte ((q + (6 : Int32)).toInt8.toInt32)), .int (nar .byte ((q + (7 : Int32)).toInt8.toInt32)), .int (nar .byte ((q + (8 : Int32)).toInt8.toInt32)), .int (nar .byte ((q + (9 : Int32)).toInt8.toInt32)), .int (nar .byte ((q + (10 : Int32)).toInt8.toInt32)), .int (nar .byte ((q + (11 : Int32)).toInt8.toInt32)), .int (nar .byte ((q + (12 : Int32)).toInt8.toInt32)), .int (nar .byte ((q + (13 : Int32)).toInt8.toInt32)), .int (nar .byte ((q + (14 : Int32)).toInt8.toInt32)), .int (nar .byte ((q + (15 : Int32)).toInt8.toInt32)), .int (nar .byte ((q + (16 : Int32)).toInt8.toInt32)), .int (nar .byte ((q + (17 : Int32)).toInt8.toInt32)), .int (nar .byte ((q + (18 : Int32)).toInt8.toInt32)), .int (nar .byte ((q + (19 : Int32)).toInt8.toInt32)), .int (nar .byte ((q + (20 : Int32)).toInt8.toInt32)), .int (nar .byte ((q + (21 : Int32)).toInt8.toInt32)), .int (nar .byte ((q + (22 : Int32)).toInt8.toInt32)), .int (nar .byte ((q + (23 : Int32)).toInt8.toInt32)), .int (nar .byte ((q + (24 : Int32)).toInt8.toInt32)), .int (nar .byte ((q + (25 : Int32)).toInt8.toInt32)), .int (nar .byte ((q + (26 : Int32)).toInt8.toInt32)), .int (nar .byte ((q + (27 : Int32)).toInt8.toInt32)), .int (nar .byte ((q + (28 : Int32)).toInt8.toInt32)), .int (nar .byte ((q + (29 : Int32)).toInt8.toInt32)), .int (nar .byte ((q + (30 : Int32)).toInt8.toInt32)), .int (nar .byte ((q + (31 : Int32)).toInt8.toInt32)), .int (nar .byte ((q + (32 : Int32)).toInt8.toInt32)), .int (nar .byte ((q + (33 : Int32)).toInt8.toInt32)), .int (nar .byte ((q + (34 : Int32)).toInt8.toInt32)), .int (nar .byte ((q + (35 : Int32)).toInt8.toInt32)), .int (nar .byte ((q + (36 : Int32)).toInt8.toInt32)), .int (nar .byte ((q + (37 : Int32)).toInt8.toInt32)), .int (nar .byte ((q + (38 : Int32)).toInt8.toInt32)), .int (nar .byte ((q + (39 : Int32)).toInt8.toInt32)), .int (nar .byte ((q + (40 : Int32)).toInt8.toInt32)), .int (nar .byte ((q + (41 : Int32)).toInt8.toInt32)), .int (nar .byte ((q + (42 : Int32)).toInt8.toInt32)), .int (nar .byte ((q + (43 : Int32)).toInt8.toInt32)), .int (nar .byte ((q + (44 : Int32)).toInt8.toInt32)), .int (nar .byte ((q + (45 : Int32)).toInt8.toInt32)), .int (nar .byte ((q + (46 : Int32)).toInt8.toInt32)), .int (nar .byte ((q + (47 : Int32)).toInt8.toInt32))]
theorem own_nb (x : Int32) : nar .byte (x.toInt8.toInt32) = x.toInt8.toInt32 := by
  show x.toInt8.toInt32.toInt8.toInt32 = x.toInt8.toInt32
  simp
theorem own_at (q : Int32) (n : Nat) (h : n < 48) : (own_src q).getD n (.int (0 : Int32)) = .int ((q + Int32.ofNat n).toInt8.toInt32) := by
  rcases (by omega : n = 0 ∨ n = 1 ∨ n = 2 ∨ n = 3 ∨ n = 4 ∨ n = 5 ∨ n = 6 ∨ n = 7 ∨ n = 8 ∨ n = 9 ∨ n = 10 ∨ n = 11 ∨ n = 12 ∨ n = 13 ∨ n = 14 ∨ n = 15 ∨ n = 16 ∨ n = 17 ∨ n = 18 ∨ n = 19 ∨ n = 20 ∨ n = 21 ∨ n = 22 ∨ n = 23 ∨ n = 24 ∨ n = 25 ∨ n = 26 ∨ n = 27 ∨ n = 28 ∨ n = 29 ∨ n = 30 ∨ n = 31 ∨ n = 32 ∨ n = 33 ∨ n = 34 ∨ n = 35 ∨ n = 36 ∨ n = 37 ∨ n = 38 ∨ n = 39 ∨ n = 40 ∨ n = 41 ∨ n = 42 ∨ n = 43 ∨ n = 44 ∨ n = 45 ∨ n = 46 ∨ n = 47) with rfl | rfl | rfl | rfl | rfl | rfl | rfl | rfl | rfl | rfl | rfl | rfl | rfl | rfl | rfl | rfl | rfl | rfl | rfl | rfl | rfl | rfl | rfl | rfl | rfl | rfl | rfl | rfl | rfl | rfl | rfl | rfl | rfl | rfl | rfl | rfl | rfl | rfl | rfl | rfl | rfl | rfl | rfl | rfl | rfl | rfl | rfl | rfl
  · show Value.int (nar .byte (q.toInt8.toInt32)) = _
    rw [own_nb, show q + Int32.ofNat 0 = q from Int32.add_zero q]
  · exact congrArg Value.int (own_nb _)
  · exact congrArg Value.int (own_nb _)
  · exact congrArg Value.int (own_nb _)
  · exact congrArg Value.int (own_nb _)
  · exact congrArg Value.int (own_nb _)
  · exact congrArg Value.int (own_nb _)
  · exact congrArg Value.int (own_nb _)
  · exact congrArg Value.int (own_nb _)
  · exact congrArg Value.int (own_nb _)
  · exact congrArg Value.int (own_nb _)
  · exact congrArg Value.int (own_nb _)
  · exact congrArg Value.int (own_nb _)
  · exact congrArg Value.int (own_nb _)
  · exact congrArg Value.int (own_nb _)
  · exact congrArg Value.int (own_nb _)
  · exact congrArg Value.int (own_nb _)
  · exact congrArg Value.int (own_nb _)
  · exact congrArg Value.int (own_nb _)
  · exact congrArg Value.int (own_nb _)
  · exact congrArg Value.int (own_nb _)
  · exact congrArg Value.int (own_nb _)
  · exact congrArg Value.int (own_nb _)
  · exact congrArg Value.int (own_nb _)
  · exact congrArg Value.int (own_nb _)
  · exact congrArg Value.int (own_nb _)
  · exact congrArg Value.int (own_nb _)
  · exact congrArg Value.int (own_nb _)
  · exact congrArg Value.int (own_nb _)
  · exact congrArg Value.int (own_nb _)
  · exact congrArg Value.int (own_nb _)
  · exact congrArg Value.int (own_nb _)
  · exact congrArg Value.int (own_nb _)
  · exact congrArg Value.int (own_nb _)
  · exact congrArg Value.int (own_nb _)
  · exact congrArg Value.int (own_nb _)
  · exact congrArg Value.int (own_nb _)
  · exact congrArg Value.int (own_nb _)
  · exact congrArg Value.int (own_nb _)
  · exact congrArg Value.int (own_nb _)
  · exact congrArg Value.int (own_nb _)
  · exact congrArg Value.int (own_nb _)
  · exact congrArg Value.int (own_nb _)
  · exact congrArg Value.int (own_nb _)
  · exact congrArg Value.int (own_nb _)
  · exact congrArg Value.int (own_nb _)
  · exact congrArg Value.int (own_nb _)
  · exact congrArg Value.int (own_nb _)
theorem own_clamp {a : Int32} {n : Nat} (h : a.toInt = (n : Int)) : a.toNatClampNeg = n := by
  show a.toInt.toNat = n
  omega
theorem own_toI {a : Int32} (h : ¬ a < 0) : a.toInt = (a.toNatClampNeg : Int) := nat_of h
theorem own_ge {a : Int32} (h : 0 < a) : ¬ a < 0 ∧ 1 ≤ a.toNatClampNeg := by
  have o0 : (0 : Int32).toInt = 0 := rfl
  rw [Int32.lt_iff_toInt_lt, o0] at h
  rw [Int32.lt_iff_toInt_lt, o0]
  refine ⟨by omega, ?_⟩
  show 1 ≤ a.toInt.toNat
  omega
theorem own_bx {a b : Int32} (h0 : ¬ a < 0) (h : ¬ ((4 : Int32) - a) < b) (ha : a.toNatClampNeg ≤ 3) (hb : ¬ b < 0) : a.toNatClampNeg + b.toNatClampNeg ≤ 4 := by
  have k := c_isub 4 a
  have o : (4 : Int32).toInt = 4 := rfl
  have r := rng32 ((4 : Int32) - a)
  rw [Int32.lt_iff_toInt_lt] at h
  have e1 := own_toI h0
  have e2 := own_toI hb
  rw [o] at k
  omega
theorem own_by {a b : Int32} (h0 : ¬ a < 0) (h : ¬ ((3 : Int32) - a) < b) (ha : a.toNatClampNeg ≤ 2) (hb : ¬ b < 0) : a.toNatClampNeg + b.toNatClampNeg ≤ 3 := by
  have k := c_isub 3 a
  have o : (3 : Int32).toInt = 3 := rfl
  have r := rng32 ((3 : Int32) - a)
  rw [Int32.lt_iff_toInt_lt] at h
  have e1 := own_toI h0
  have e2 := own_toI hb
  rw [o] at k
  omega
theorem own_w4 {w : Int32} (h : ¬ w < 0) (h4 : w.toNatClampNeg ≤ 4) : (w * (4 : Int32)).toInt = ((4 * w.toNatClampNeg : Nat) : Int) := by
  have k := c_imul w 4
  have o : (4 : Int32).toInt = 4 := rfl
  have r := rng32 (w * (4 : Int32))
  have e := own_toI h
  rw [o] at k
  omega
theorem own_n1 {w : Int32} (h : ¬ w < 0) (h4 : w.toNatClampNeg ≤ 4) : ((w * (1 : Int32)) * (4 : Int32)).toInt = ((1 * (4 * w.toNatClampNeg) : Nat) : Int) ∧ ((w * (1 : Int32)) * (4 : Int32)).toInt64 = ((w.toInt64 * (1 : Int32).toInt64) * (4 : Int64)) := by
  have e := own_toI h
  have o : (4 : Int32).toInt = 4 := rfl
  have o' : (1 : Int32).toInt = 1 := rfl
  have o4 : (4 : Int64).toInt = 4 := rfl
  have e1 : (w * (1 : Int32)).toInt = w.toInt * 1 := by
    have k := c_imul w 1; have r := rng32 (w * (1 : Int32)); rw [o'] at k; omega
  have e2 : (w * (1 : Int32) * (4 : Int32)).toInt = w.toInt * 1 * 4 := by
    have k := c_imul (w * (1 : Int32)) 4; have r := rng32 (w * (1 : Int32) * (4 : Int32)); rw [o] at k; omega
  have e3 : (w.toInt64 * (1 : Int32).toInt64).toInt = w.toInt * 1 := by
    have k := c_lmul w.toInt64 (1 : Int32).toInt64; have r := rng64 (w.toInt64 * (1 : Int32).toInt64); rw [c_i2l, c_i2l, o'] at k; omega
  have e4 : (w.toInt64 * (1 : Int32).toInt64 * (4 : Int64)).toInt = w.toInt * 1 * 4 := by
    have k := c_lmul (w.toInt64 * (1 : Int32).toInt64) 4; have r := rng64 (w.toInt64 * (1 : Int32).toInt64 * (4 : Int64)); rw [o4] at k; omega
  refine ⟨by omega, Int64.toInt_inj.mp ?_⟩
  rw [c_i2l, e2, e4]
theorem own_n2 {w : Int32} (h : ¬ w < 0) (h4 : w.toNatClampNeg ≤ 4) : ((w * (2 : Int32)) * (4 : Int32)).toInt = ((2 * (4 * w.toNatClampNeg) : Nat) : Int) ∧ ((w * (2 : Int32)) * (4 : Int32)).toInt64 = ((w.toInt64 * (2 : Int32).toInt64) * (4 : Int64)) := by
  have e := own_toI h
  have o : (4 : Int32).toInt = 4 := rfl
  have o' : (2 : Int32).toInt = 2 := rfl
  have o4 : (4 : Int64).toInt = 4 := rfl
  have e1 : (w * (2 : Int32)).toInt = w.toInt * 2 := by
    have k := c_imul w 2; have r := rng32 (w * (2 : Int32)); rw [o'] at k; omega
  have e2 : (w * (2 : Int32) * (4 : Int32)).toInt = w.toInt * 2 * 4 := by
    have k := c_imul (w * (2 : Int32)) 4; have r := rng32 (w * (2 : Int32) * (4 : Int32)); rw [o] at k; omega
  have e3 : (w.toInt64 * (2 : Int32).toInt64).toInt = w.toInt * 2 := by
    have k := c_lmul w.toInt64 (2 : Int32).toInt64; have r := rng64 (w.toInt64 * (2 : Int32).toInt64); rw [c_i2l, c_i2l, o'] at k; omega
  have e4 : (w.toInt64 * (2 : Int32).toInt64 * (4 : Int64)).toInt = w.toInt * 2 * 4 := by
    have k := c_lmul (w.toInt64 * (2 : Int32).toInt64) 4; have r := rng64 (w.toInt64 * (2 : Int32).toInt64 * (4 : Int64)); rw [o4] at k; omega
  refine ⟨by omega, Int64.toInt_inj.mp ?_⟩
  rw [c_i2l, e2, e4]
theorem own_n3 {w : Int32} (h : ¬ w < 0) (h4 : w.toNatClampNeg ≤ 4) : ((w * (3 : Int32)) * (4 : Int32)).toInt = ((3 * (4 * w.toNatClampNeg) : Nat) : Int) ∧ ((w * (3 : Int32)) * (4 : Int32)).toInt64 = ((w.toInt64 * (3 : Int32).toInt64) * (4 : Int64)) := by
  have e := own_toI h
  have o : (4 : Int32).toInt = 4 := rfl
  have o' : (3 : Int32).toInt = 3 := rfl
  have o4 : (4 : Int64).toInt = 4 := rfl
  have e1 : (w * (3 : Int32)).toInt = w.toInt * 3 := by
    have k := c_imul w 3; have r := rng32 (w * (3 : Int32)); rw [o'] at k; omega
  have e2 : (w * (3 : Int32) * (4 : Int32)).toInt = w.toInt * 3 * 4 := by
    have k := c_imul (w * (3 : Int32)) 4; have r := rng32 (w * (3 : Int32) * (4 : Int32)); rw [o] at k; omega
  have e3 : (w.toInt64 * (3 : Int32).toInt64).toInt = w.toInt * 3 := by
    have k := c_lmul w.toInt64 (3 : Int32).toInt64; have r := rng64 (w.toInt64 * (3 : Int32).toInt64); rw [c_i2l, c_i2l, o'] at k; omega
  have e4 : (w.toInt64 * (3 : Int32).toInt64 * (4 : Int64)).toInt = w.toInt * 3 * 4 := by
    have k := c_lmul (w.toInt64 * (3 : Int32).toInt64) 4; have r := rng64 (w.toInt64 * (3 : Int32).toInt64 * (4 : Int64)); rw [o4] at k; omega
  refine ⟨by omega, Int64.toInt_inj.mp ?_⟩
  rw [c_i2l, e2, e4]
theorem own_sp0 {x y : Int32} (hx : ¬ x < 0) (hx3 : x.toNatClampNeg ≤ 3) (hy : ¬ y < 0) (hy2 : y.toNatClampNeg ≤ 2) : ((((y + (0 : Int32)) * (4 : Int32)) + x) * (4 : Int32)).toInt = ((((y.toNatClampNeg + 0) * 4 + x.toNatClampNeg) * 4 : Nat) : Int) := by
  have k1 := c_iadd y (0 : Int32)
  have k2 := c_imul (y + (0 : Int32)) 4
  have k3 := c_iadd ((y + (0 : Int32)) * (4 : Int32)) x
  have k4 := c_imul (((y + (0 : Int32)) * (4 : Int32)) + x) 4
  have r1 := rng32 (y + (0 : Int32))
  have r2 := rng32 ((y + (0 : Int32)) * (4 : Int32))
  have r3 := rng32 (((y + (0 : Int32)) * (4 : Int32)) + x)
  have r4 := rng32 ((((y + (0 : Int32)) * (4 : Int32)) + x) * (4 : Int32))
  have e1 := own_toI hx
  have e2 := own_toI hy
  have o : (4 : Int32).toInt = 4 := rfl
  have o' : (0 : Int32).toInt = 0 := by decide
  rw [o'] at k1
  rw [o] at k2 k4
  omega
theorem own_dp0 {w : Int32} (h : ¬ w < 0) (h4 : w.toNatClampNeg ≤ 4) : ((0 : Int32) * (w * (4 : Int32))).toInt = ((0 * (4 * w.toNatClampNeg) : Nat) : Int) := by
  have k := own_w4 h h4
  have k2 := c_imul (0 : Int32) (w * (4 : Int32))
  have r := rng32 ((0 : Int32) * (w * (4 : Int32)))
  have o' : (0 : Int32).toInt = 0 := by decide
  rw [o'] at k2
  omega
theorem own_sp1 {x y : Int32} (hx : ¬ x < 0) (hx3 : x.toNatClampNeg ≤ 3) (hy : ¬ y < 0) (hy2 : y.toNatClampNeg ≤ 2) : ((((y + ((0 : Int32) + (1 : Int32))) * (4 : Int32)) + x) * (4 : Int32)).toInt = ((((y.toNatClampNeg + 1) * 4 + x.toNatClampNeg) * 4 : Nat) : Int) := by
  have k1 := c_iadd y ((0 : Int32) + (1 : Int32))
  have k2 := c_imul (y + ((0 : Int32) + (1 : Int32))) 4
  have k3 := c_iadd ((y + ((0 : Int32) + (1 : Int32))) * (4 : Int32)) x
  have k4 := c_imul (((y + ((0 : Int32) + (1 : Int32))) * (4 : Int32)) + x) 4
  have r1 := rng32 (y + ((0 : Int32) + (1 : Int32)))
  have r2 := rng32 ((y + ((0 : Int32) + (1 : Int32))) * (4 : Int32))
  have r3 := rng32 (((y + ((0 : Int32) + (1 : Int32))) * (4 : Int32)) + x)
  have r4 := rng32 ((((y + ((0 : Int32) + (1 : Int32))) * (4 : Int32)) + x) * (4 : Int32))
  have e1 := own_toI hx
  have e2 := own_toI hy
  have o : (4 : Int32).toInt = 4 := rfl
  have o' : ((0 : Int32) + (1 : Int32)).toInt = 1 := by decide
  rw [o'] at k1
  rw [o] at k2 k4
  omega
theorem own_dp1 {w : Int32} (h : ¬ w < 0) (h4 : w.toNatClampNeg ≤ 4) : (((0 : Int32) + (1 : Int32)) * (w * (4 : Int32))).toInt = ((1 * (4 * w.toNatClampNeg) : Nat) : Int) := by
  have k := own_w4 h h4
  have k2 := c_imul ((0 : Int32) + (1 : Int32)) (w * (4 : Int32))
  have r := rng32 (((0 : Int32) + (1 : Int32)) * (w * (4 : Int32)))
  have o' : ((0 : Int32) + (1 : Int32)).toInt = 1 := by decide
  rw [o'] at k2
  omega
theorem own_sp2 {x y : Int32} (hx : ¬ x < 0) (hx3 : x.toNatClampNeg ≤ 3) (hy : ¬ y < 0) (hy2 : y.toNatClampNeg ≤ 2) : ((((y + (((0 : Int32) + (1 : Int32)) + (1 : Int32))) * (4 : Int32)) + x) * (4 : Int32)).toInt = ((((y.toNatClampNeg + 2) * 4 + x.toNatClampNeg) * 4 : Nat) : Int) := by
  have k1 := c_iadd y (((0 : Int32) + (1 : Int32)) + (1 : Int32))
  have k2 := c_imul (y + (((0 : Int32) + (1 : Int32)) + (1 : Int32))) 4
  have k3 := c_iadd ((y + (((0 : Int32) + (1 : Int32)) + (1 : Int32))) * (4 : Int32)) x
  have k4 := c_imul (((y + (((0 : Int32) + (1 : Int32)) + (1 : Int32))) * (4 : Int32)) + x) 4
  have r1 := rng32 (y + (((0 : Int32) + (1 : Int32)) + (1 : Int32)))
  have r2 := rng32 ((y + (((0 : Int32) + (1 : Int32)) + (1 : Int32))) * (4 : Int32))
  have r3 := rng32 (((y + (((0 : Int32) + (1 : Int32)) + (1 : Int32))) * (4 : Int32)) + x)
  have r4 := rng32 ((((y + (((0 : Int32) + (1 : Int32)) + (1 : Int32))) * (4 : Int32)) + x) * (4 : Int32))
  have e1 := own_toI hx
  have e2 := own_toI hy
  have o : (4 : Int32).toInt = 4 := rfl
  have o' : (((0 : Int32) + (1 : Int32)) + (1 : Int32)).toInt = 2 := by decide
  rw [o'] at k1
  rw [o] at k2 k4
  omega
theorem own_dp2 {w : Int32} (h : ¬ w < 0) (h4 : w.toNatClampNeg ≤ 4) : ((((0 : Int32) + (1 : Int32)) + (1 : Int32)) * (w * (4 : Int32))).toInt = ((2 * (4 * w.toNatClampNeg) : Nat) : Int) := by
  have k := own_w4 h h4
  have k2 := c_imul (((0 : Int32) + (1 : Int32)) + (1 : Int32)) (w * (4 : Int32))
  have r := rng32 ((((0 : Int32) + (1 : Int32)) + (1 : Int32)) * (w * (4 : Int32)))
  have o' : (((0 : Int32) + (1 : Int32)) + (1 : Int32)).toInt = 2 := by decide
  rw [o'] at k2
  omega
theorem own_nz {a : Int32} {z : Int} (h : a.toInt = z) (h0 : 0 ≤ z) : ¬ a < 0 := by
  rw [Int32.lt_iff_toInt_lt]
  have : (0 : Int32).toInt = 0 := rfl
  omega
theorem own_mod {s n i : Int32} {N : Nat} (hn : n.toInt = (N : Int)) (hN : 0 < N) (h : i = (s &&& (2147483647 : Int32)) % n) : ¬ i < 0 ∧ i.toNatClampNeg < N := by
  have h1 := c_mask s 2147483647 31 (by decide) (by decide)
  have h2 := (c_iremV (s &&& (2147483647 : Int32)) n).1 (by omega) (by omega)
  rw [← h] at h2
  have o0 : (0 : Int32).toInt = 0 := rfl
  refine ⟨?_, ?_⟩
  · rw [Int32.lt_iff_toInt_lt, o0]; omega
  · show i.toInt.toNat < N; omega
theorem own_w {s x w : Int32} {M : Nat} {m : Int32} (hm : m.toInt = (M : Int)) (hM : M ≤ 4) (hx0 : ¬ x < 0) (hx : x.toNatClampNeg < M) (h : w = (1 : Int32) + ((s &&& (2147483647 : Int32)) % (m - x))) : 0 < w ∧ ¬ (m - x) < w ∧ w.toNatClampNeg ≤ 4 ∧ x.toNatClampNeg + w.toNatClampNeg ≤ M := by
  have k := c_isub m x
  have r := rng32 (m - x)
  have e := own_toI hx0
  have ed : (m - x).toInt = ((M - x.toNatClampNeg : Nat) : Int) := by omega
  obtain ⟨q1, q2⟩ := own_mod ed (by omega) (rfl : (s &&& (2147483647 : Int32)) % (m - x) = (s &&& (2147483647 : Int32)) % (m - x))
  have e2 := own_toI q1
  have k2 := c_iadd 1 ((s &&& (2147483647 : Int32)) % (m - x))
  rw [← h] at k2
  have o1 : (1 : Int32).toInt = 1 := rfl
  have o0 : (0 : Int32).toInt = 0 := rfl
  have r2 := rng32 w
  rw [o1] at k2
  have ew : w.toInt = ((1 + ((s &&& (2147483647 : Int32)) % (m - x)).toNatClampNeg : Nat) : Int) := by omega
  have ew2 := own_clamp ew
  refine ⟨?_, ?_, ?_, ?_⟩
  · rw [Int32.lt_iff_toInt_lt, o0]; omega
  · rw [Int32.lt_iff_toInt_lt]; omega
  · omega
  · omega
theorem own_nz4 {m x : Int32} {M : Nat} (hm : m.toInt = (M : Int)) (hM : M ≤ 4) (hx0 : ¬ x < 0) (hx : x.toNatClampNeg < M) : m - x ≠ 0 := fun q => by
  have k := c_isub m x
  have e := own_toI hx0
  have o0 : (0 : Int32).toInt = 0 := rfl
  rw [q, o0] at k
  omega
theorem own_lnz {w : Int32} (h : 0 < w) : w.toInt64 ≠ 0 := fun q => by
  have e : w.toInt64.toInt = 0 := by rw [q]; rfl
  rw [c_i2l] at e
  have o0 : (0 : Int32).toInt = 0 := rfl
  rw [Int32.lt_iff_toInt_lt, o0] at h
  omega
theorem own_lmod {a : Int64} {w i : Int32} (h : 0 < w) (e : i = ((a &&& (2147483647 : Int64)) - ((a &&& (2147483647 : Int64)) / w.toInt64) * w.toInt64).toInt32) : ¬ i < 0 ∧ i.toNatClampNeg < w.toNatClampNeg := by
  have h1 := c_maskL a 2147483647 31 (by decide) (by decide)
  have h2 := (c_lrem (a &&& (2147483647 : Int64)) w.toInt64 w.toInt (c_i2l w)).1 (by omega)
  have o0 : (0 : Int32).toInt = 0 := rfl
  rw [Int32.lt_iff_toInt_lt, o0] at h
  have m1 := Int.emod_nonneg (a &&& (2147483647 : Int64)).toInt (show w.toInt ≠ 0 by omega)
  have m2 := Int.emod_lt_of_pos (a &&& (2147483647 : Int64)).toInt h
  have h3 := c_l2i ((a &&& (2147483647 : Int64)) - ((a &&& (2147483647 : Int64)) / w.toInt64) * w.toInt64)
  rw [← e] at h3
  have r := rng32 i
  have r2 := rng32 w
  generalize (a &&& (2147483647 : Int64)).toInt % w.toInt = mm at *
  refine ⟨?_, ?_⟩
  · rw [Int32.lt_iff_toInt_lt, o0]; omega
  · show i.toInt.toNat < w.toInt.toNat; omega
theorem own_k {a : Int64} {i : Int32} (e : i = (a &&& (3 : Int64)).toInt32) : ¬ i < 0 ∧ i.toNatClampNeg < 4 := by
  have h1 := c_maskL a 3 2 (by decide) (by decide)
  have h3 := c_l2i (a &&& (3 : Int64))
  rw [← e] at h3
  have r := rng32 i
  have o0 : (0 : Int32).toInt = 0 := rfl
  refine ⟨?_, ?_⟩
  · rw [Int32.lt_iff_toInt_lt, o0]; omega
  · show i.toInt.toNat < 4; omega
theorem own_h3 {y h : Int32} (h0 : 0 < h) (h1 : y.toNatClampNeg + h.toNatClampNeg ≤ 3) : h = 1 ∨ h = 2 ∨ h = 3 := by
  have e := own_toI (own_ge h0).1
  have e2 := (own_ge h0).2
  simp only [← Int32.toInt_inj]
  show h.toInt = 1 ∨ h.toInt = 2 ∨ h.toInt = 3
  omega
theorem own_q {py w px k : Int32} {H : Nat} (hw : ¬ w < 0) (hw4 : w.toNatClampNeg ≤ 4) (hy : ¬ py < 0) (hyH : py.toNatClampNeg < H) (hH : H ≤ 3) (hx : ¬ px < 0) (hxw : px.toNatClampNeg < w.toNatClampNeg) (hk : ¬ k < 0) (hk4 : k.toNatClampNeg < 4) :
    ((((py * w) + px) * (4 : Int32)) + k).toInt = ((py.toNatClampNeg * (4 * w.toNatClampNeg) + (4 * px.toNatClampNeg + k.toNatClampNeg) : Nat) : Int) ∧ 4 * px.toNatClampNeg + k.toNatClampNeg < 4 * w.toNatClampNeg := by
  have e1 := own_toI hw
  have e2 := own_toI hy
  have e3 := own_toI hx
  have e4 := own_toI hk
  have k1 := c_imul py w
  have k2 := c_iadd (py * w) px
  have k3 := c_imul ((py * w) + px) 4
  have k4 := c_iadd (((py * w) + px) * (4 : Int32)) k
  have r1 := rng32 (py * w)
  have r2 := rng32 ((py * w) + px)
  have r3 := rng32 (((py * w) + px) * (4 : Int32))
  have r4 := rng32 ((((py * w) + px) * (4 : Int32)) + k)
  have o : (4 : Int32).toInt = 4 := rfl
  rw [o] at k3
  refine ⟨?_, by omega⟩
  rw [e1, e2] at k1
  rcases (by omega : py.toNatClampNeg = 0 ∨ py.toNatClampNeg = 1 ∨ py.toNatClampNeg = 2) with q | q | q <;> rw [q] at k1 ⊢ <;> omega
theorem own_o {y py x px k : Int32} (hy : ¬ y < 0) (hpy : ¬ py < 0) (hx : ¬ x < 0) (hpx : ¬ px < 0) (hk : ¬ k < 0) (h1 : y.toNatClampNeg + py.toNatClampNeg < 3) (h2 : x.toNatClampNeg + px.toNatClampNeg < 4) (h3 : k.toNatClampNeg < 4) :
    (((((y + py) * (4 : Int32)) + (x + px)) * (4 : Int32)) + k) = Int32.ofNat (((y.toNatClampNeg + py.toNatClampNeg) * 4 + x.toNatClampNeg) * 4 + (4 * px.toNatClampNeg + k.toNatClampNeg)) ∧ ((y.toNatClampNeg + py.toNatClampNeg) * 4 + x.toNatClampNeg) * 4 + (4 * px.toNatClampNeg + k.toNatClampNeg) < 48 := by
  have e1 := own_toI hy
  have e2 := own_toI hpy
  have e3 := own_toI hx
  have e4 := own_toI hpx
  have e5 := own_toI hk
  have k1 := c_iadd y py
  have k2 := c_imul (y + py) 4
  have k3 := c_iadd x px
  have k4 := c_iadd ((y + py) * (4 : Int32)) (x + px)
  have k5 := c_imul (((y + py) * (4 : Int32)) + (x + px)) 4
  have k6 := c_iadd ((((y + py) * (4 : Int32)) + (x + px)) * (4 : Int32)) k
  have r1 := rng32 (y + py)
  have r2 := rng32 ((y + py) * (4 : Int32))
  have r3 := rng32 (x + px)
  have r4 := rng32 (((y + py) * (4 : Int32)) + (x + px))
  have r5 := rng32 ((((y + py) * (4 : Int32)) + (x + px)) * (4 : Int32))
  have r6 := rng32 (((((y + py) * (4 : Int32)) + (x + px)) * (4 : Int32)) + k)
  have o : (4 : Int32).toInt = 4 := rfl
  rw [o] at k2 k5
  refine ⟨Int32.toInt_inj.mp ?_, by omega⟩
  refine Eq.trans ?_ (own_ofNat ?_).symm <;> omega
theorem own_lt {a n : Int32} {A N : Nat} (ha : a.toInt = (A : Int)) (hn : n.toInt = (N : Int)) (h : A < N) : ¬ a < 0 ∧ a < n := by
  have o0 : (0 : Int32).toInt = 0 := rfl
  rw [Int32.lt_iff_toInt_lt, Int32.lt_iff_toInt_lt, o0]
  omega
theorem pn_1 : plainName "com/example/facetwork/facetwork/image/RgbaImage" = true := by first | (simp [plainName, overriddenIn]; done) | decide +kernel
theorem d1_0 : decode prog_4_method_1_code 0 = .ok (.aload_n 0, 1) := by decide +kernel
theorem d1_1 : decode prog_4_method_1_code 1 = .ok (.invokespecial 1, 3) := by decide +kernel
theorem d1_4 : decode prog_4_method_1_code 4 = .ok (.iload_n 1, 1) := by decide +kernel
theorem d1_5 : decode prog_4_method_1_code 5 = .ok (.ifCond .le 7, 3) := by decide +kernel
theorem d1_8 : decode prog_4_method_1_code 8 = .ok (.iload_n 2, 1) := by decide +kernel
theorem d1_9 : decode prog_4_method_1_code 9 = .ok (.ifCond .gt 18, 3) := by decide +kernel
theorem d1_27 : decode prog_4_method_1_code 27 = .ok (.aload_n 3, 1) := by decide +kernel
theorem d1_28 : decode prog_4_method_1_code 28 = .ok (.arraylength, 1) := by decide +kernel
theorem d1_29 : decode prog_4_method_1_code 29 = .ok (.i2l, 1) := by decide +kernel
theorem d1_30 : decode prog_4_method_1_code 30 = .ok (.iload_n 1, 1) := by decide +kernel
theorem d1_31 : decode prog_4_method_1_code 31 = .ok (.i2l, 1) := by decide +kernel
theorem d1_32 : decode prog_4_method_1_code 32 = .ok (.iload_n 2, 1) := by decide +kernel
theorem d1_33 : decode prog_4_method_1_code 33 = .ok (.i2l, 1) := by decide +kernel
theorem d1_34 : decode prog_4_method_1_code 34 = .ok (.lmul, 1) := by decide +kernel
theorem d1_35 : decode prog_4_method_1_code 35 = .ok (.ldc2_w 16, 3) := by decide +kernel
theorem d1_38 : decode prog_4_method_1_code 38 = .ok (.lmul, 1) := by decide +kernel
theorem d1_39 : decode prog_4_method_1_code 39 = .ok (.lcmp, 1) := by decide +kernel
theorem d1_40 : decode prog_4_method_1_code 40 = .ok (.ifCond .eq 29, 3) := by decide +kernel
theorem d1_69 : decode prog_4_method_1_code 69 = .ok (.aload_n 0, 1) := by decide +kernel
theorem d1_70 : decode prog_4_method_1_code 70 = .ok (.iload_n 1, 1) := by decide +kernel
theorem d1_71 : decode prog_4_method_1_code 71 = .ok (.putfield 21, 3) := by decide +kernel
theorem d1_74 : decode prog_4_method_1_code 74 = .ok (.aload_n 0, 1) := by decide +kernel
theorem d1_75 : decode prog_4_method_1_code 75 = .ok (.iload_n 2, 1) := by decide +kernel
theorem d1_76 : decode prog_4_method_1_code 76 = .ok (.putfield 27, 3) := by decide +kernel
theorem d1_79 : decode prog_4_method_1_code 79 = .ok (.aload_n 0, 1) := by decide +kernel
theorem d1_80 : decode prog_4_method_1_code 80 = .ok (.aload_n 3, 1) := by decide +kernel
theorem d1_81 : decode prog_4_method_1_code 81 = .ok (.invokevirtual 30, 3) := by decide +kernel
theorem d1_84 : decode prog_4_method_1_code 84 = .ok (.checkcast 31, 3) := by decide +kernel
theorem d1_87 : decode prog_4_method_1_code 87 = .ok (.putfield 36, 3) := by decide +kernel
theorem d1_90 : decode prog_4_method_1_code 90 = .ok (.return_, 1) := by decide +kernel
theorem ef_1 (m : MethodId) (a1 : Addr) (p1 : Int32) (p2 : Int32) (p3 : Addr) : entryFrame m #[(.ref a1), (.int p1), (.int p2), (.ref p3)] 4 = mkF m 0 #[.val (.ref a1), .val (.int p1), .val (.int p2), .val (.ref p3)] [] := by first | (simp [entryFrame, mkF, argsToLocals, Value.category]; done) | rfl
def Q1 (Z : State) (a1 : Addr) (p1 : Int32) (p2 : Int32) (p3 : Addr) (kk : ClassId) (nn : Int32) (vs : List Value) (h0 : Heap) (n0 : Nat) (v : Option Value) (h : Heap) (L : List Loc) : Prop := ∃ pa : Addr, v = none ∧ Fr n0 L ∧ Keep h0 h [a1] ∧ h0.size ≤ pa ∧ Fld Z h a1 "com/example/facetwork/facetwork/image/RgbaImage" "width" "I" (.int p1) ∧ Fld Z h a1 "com/example/facetwork/facetwork/image/RgbaImage" "height" "I" (.int p2) ∧ Fld Z h a1 "com/example/facetwork/facetwork/image/RgbaImage" "pixels" "[B" (.ref pa) ∧ Exa Z h pa "[B" ∧ Arv Z h pa kk .byte nn vs (.int (0 : Int32))
set_option maxRecDepth 65536 in
set_option maxHeartbeats 40000000 in
theorem rm1 (l : Launch) (Z : State) (a0 : Array Value) (hw : ∀ d ∈ tables_1, d.before a0 Z = true) (ws : List Jvm.Cond) (a1 : Addr) (p1 : Int32) (p2 : Int32) (p3 : Addr) (kk : ClassId) (nn : Int32) (vs : List Value) (h0 : Heap) (n0 : Nat) (Z0 : n0 ≤ h0.size) (E1 : Exa Z h0 a1 "com/example/facetwork/facetwork/image/RgbaImage") (ga1 : n0 ≤ a1) (F0 : Fld Z h0 a1 "com/example/facetwork/facetwork/image/RgbaImage" "width" "I" (.int (0 : Int32))) (F1 : Fld Z h0 a1 "com/example/facetwork/facetwork/image/RgbaImage" "height" "I" (.int (0 : Int32))) (F2 : Fld Z h0 a1 "com/example/facetwork/facetwork/image/RgbaImage" "pixels" "[B" .null) (E3 : Exa Z h0 p3 "[B") (V0 : Arv Z h0 p3 kk .byte nn vs (.int (0 : Int32))) (n13 : a1 ≠ p3) (hw1 : 0 < p1) (hw2 : 0 < p2) (hq : nn.toInt64 = ((p1.toInt64 * p2.toInt64) * (4 : Int64))) (hcap : nn.toNatClampNeg ≤ 48) :
    MetFree l (⟨"com/example/facetwork/facetwork/image/RgbaImage", "<init>", "(II[B)V"⟩ : MethodName) (head1 (Jvm.Cond.code (⟨"com/example/facetwork/facetwork/image/RgbaImage", "<init>", "(II[B)V"⟩ : MethodName) prog_4_method_1_code 4 none :: ws) ({ frames := 1, cells := 1, slots := 48, locals := 15 } : Room)) (fun a U => a = #[(.ref a1), (.int p1), (.int p2), (.ref p3)] ∧ Z.Warmed39 U.vm ∧ U.heap = h0) (fun _ _ _ _ _ => True) (fun _ U o U' => ∃ v L, o = .returned v ∧ Q1 Z a1 p1 p2 p3 kk nn vs h0 n0 v U'.heap L ∧ FrameEnd U o U' L ({ frames := 1, cells := 1, slots := 48, locals := 15 } : Room).cells ({ frames := 1, cells := 1, slots := 48, locals := 15 } : Room).slots) := by
  refine MetFree.of_bodySF (plainFor_of_name pn_1) hisR ?_
  intro p e s m args below meth c s₁ Bd hml0 hP hK
  obtain ⟨rfl, hZ, hh⟩ := hP
  have hx := Bd.exec
  have hby := Bd.bytes
  have hml : c.maxLocals = 4 := hml0
  have hown : s.vm.findClass "com/example/facetwork/facetwork/image/RgbaImage" = some m.cls := findClass_of_methodNamed Bd.named
  have hnm := (name_of_methodNamed Bd.named Bd.method).1
  have X0 : Stand p l e ({ frames := 1, cells := 1, slots := 48, locals := 15 } : Room) s m #[(.ref a1), (.int p1), (.int p2), (.ref p3)] below meth c s₁ [] 0 0 := Stand.of_body Bd
  have e0 : s₁.heap = h0 := by rw [← hh, Bd.state]; rfl
  have N0 := Fr.nil n0
  have pre0 : ∀ t, Steps p.tables e below (s₁.setTop (mkF m 0 #[.val (.ref a1), .val (.int p1), .val (.int p2), .val (.ref p3)] [])) t → Steps p.tables e below (s₁.setTop (entryFrame m #[(.ref a1), (.int p1), (.int p2), (.ref p3)] 4)) t := fun t k => castTop (ef_1 m a1 p1 p2 p3) k
  have pre1 : ∀ t, Steps p.tables e below (s₁.setTop (mkF m 1 #[.val (.ref a1), .val (.int p1), .val (.int p2), .val (.ref p3)] [(.ref a1)])) t → Steps p.tables e below (s₁.setTop (entryFrame m #[(.ref a1), (.int p1), (.int p2), (.ref p3)] 4)) t := by
    intro t k
    refine pre0 t ?_
    refine XS.aloadN X0.here hx rfl (hb hby d1_0) rfl rfl ?_
    show Steps p.tables e below (s₁.setTop (mkF m 1 #[.val (.ref a1), .val (.int p1), .val (.int p2), .val (.ref p3)] [(.ref a1)])) _
    exact k
  obtain ⟨T2, X2, e2, st2⟩ := initO X0 hx hZ hown (hw _ (List.mem_of_getElem? (i := 7) rfl)) (hw _ (List.mem_of_getElem? (i := 8) rfl)) (hw _ (List.mem_of_getElem? (i := 9) rfl)) e0 (g := (mkF m 1 #[.val (.ref a1), .val (.int p1), .val (.int p2), .val (.ref p3)] [(.ref a1)])) rfl (by rw [hml]; rfl) rfl (hb hby d1_1) (by decide) (W := 0) (by show 2 * 0 + _ ≤ _; exact Nat.le_of_eq rfl) (by decide)
  have pre3 : ∀ t, Steps p.tables e below (T2.setTop (mkF m 4 #[.val (.ref a1), .val (.int p1), .val (.int p2), .val (.ref p3)] [])) t → Steps p.tables e below (s₁.setTop (entryFrame m #[(.ref a1), (.int p1), (.int p2), (.ref p3)] 4)) t := fun t k => pre1 t (st2 t k)
  have pre4 : ∀ t, Steps p.tables e below (T2.setTop (mkF m 28 #[.val (.ref a1), .val (.int p1), .val (.int p2), .val (.ref p3)] [(.ref p3)])) t → Steps p.tables e below (s₁.setTop (entryFrame m #[(.ref a1), (.int p1), (.int p2), (.ref p3)] 4)) t := by
    intro t k
    refine pre3 t ?_
    refine XS.iloadN X2.here hx rfl (hb hby d1_4) rfl ?_
    show Steps p.tables e below (T2.setTop (mkF m 5 #[.val (.ref a1), .val (.int p1), .val (.int p2), .val (.ref p3)] [(.int p1)])) _
    refine XS.ifNo X2.here hx rfl (hb hby d1_5) rfl (XT.i0_le_f hw1) ?_
    show Steps p.tables e below (T2.setTop (mkF m 8 #[.val (.ref a1), .val (.int p1), .val (.int p2), .val (.ref p3)] [])) _
    refine XS.iloadN X2.here hx rfl (hb hby d1_8) rfl ?_
    show Steps p.tables e below (T2.setTop (mkF m 9 #[.val (.ref a1), .val (.int p1), .val (.int p2), .val (.ref p3)] [(.int p2)])) _
    refine XS.ifYes X2.here hx rfl (pc0 := 9) (pc' := 27) rfl (hb hby d1_9) rfl (XT.i0_gt_t hw2) (by decide) (by decide) ?_
    show Steps p.tables e below (T2.setTop (mkF m 27 #[.val (.ref a1), .val (.int p1), .val (.int p2), .val (.ref p3)] [])) _
    refine XS.aloadN X2.here hx rfl (hb hby d1_27) rfl rfl ?_
    show Steps p.tables e below (T2.setTop (mkF m 28 #[.val (.ref a1), .val (.int p1), .val (.int p2), .val (.ref p3)] [(.ref p3)])) _
    exact k
  have K6 : Keep h0 h0 [a1] := (Keep.refl h0 [a1])
  obtain ⟨cc5, Ar5, q1_5, Sz5, q3_5, Hs5, G5⟩ := id V0
  have pre8 : ∀ t, Steps p.tables e below (T2.setTop (mkF m 71 #[.val (.ref a1), .val (.int p1), .val (.int p2), .val (.ref p3)] [(.int p1), (.ref a1)])) t → Steps p.tables e below (s₁.setTop (entryFrame m #[(.ref a1), (.int p1), (.int p2), (.ref p3)] 4)) t := by
    intro t k
    refine pre4 t ?_
    refine X2.arraylength hx (by rw [e2]; exact Ar5.1) (State.isArrayOf_alike hZ.alike Ar5.2.1) (g := (mkF m 28 #[.val (.ref a1), .val (.int p1), .val (.int p2), .val (.ref p3)] [(.ref p3)])) rfl rfl (hb hby d1_28) _ ?_
    rw [len_of Sz5 q3_5]
    show Steps p.tables e below (T2.setTop (mkF m 29 #[.val (.ref a1), .val (.int p1), .val (.int p2), .val (.ref p3)] [(.int nn)])) _
    refine XT.i2l X2.here hx rfl (hb hby d1_29) rfl ?_
    show Steps p.tables e below (T2.setTop (mkF m 30 #[.val (.ref a1), .val (.int p1), .val (.int p2), .val (.ref p3)] [(.long (nn.toInt64))])) _
    refine XS.iloadN X2.here hx rfl (hb hby d1_30) rfl ?_
    show Steps p.tables e below (T2.setTop (mkF m 31 #[.val (.ref a1), .val (.int p1), .val (.int p2), .val (.ref p3)] [(.int p1), (.long (nn.toInt64))])) _
    refine XT.i2l X2.here hx rfl (hb hby d1_31) rfl ?_
    show Steps p.tables e below (T2.setTop (mkF m 32 #[.val (.ref a1), .val (.int p1), .val (.int p2), .val (.ref p3)] [(.long (p1.toInt64)), (.long (nn.toInt64))])) _
    refine XS.iloadN X2.here hx rfl (hb hby d1_32) rfl ?_
    show Steps p.tables e below (T2.setTop (mkF m 33 #[.val (.ref a1), .val (.int p1), .val (.int p2), .val (.ref p3)] [(.int p2), (.long (p1.toInt64)), (.long (nn.toInt64))])) _
    refine XT.i2l X2.here hx rfl (hb hby d1_33) rfl ?_
    show Steps p.tables e below (T2.setTop (mkF m 34 #[.val (.ref a1), .val (.int p1), .val (.int p2), .val (.ref p3)] [(.long (p2.toInt64)), (.long (p1.toInt64)), (.long (nn.toInt64))])) _
    refine XT.lmul X2.here hx rfl (hb hby d1_34) rfl ?_
    show Steps p.tables e below (T2.setTop (mkF m 35 #[.val (.ref a1), .val (.int p1), .val (.int p2), .val (.ref p3)] [(.long ((p1.toInt64) * (p2.toInt64))), (.long (nn.toInt64))])) _
    refine Stand.ldc2J X2 hx hown (mvT hZ (hw _ (List.mem_of_getElem? (i := 10) rfl))) rfl (hb hby d1_35) ?_
    show Steps p.tables e below (T2.setTop (mkF m 38 #[.val (.ref a1), .val (.int p1), .val (.int p2), .val (.ref p3)] [(.long (4 : Int64)), (.long ((p1.toInt64) * (p2.toInt64))), (.long (nn.toInt64))])) _
    refine XT.lmul X2.here hx rfl (hb hby d1_38) rfl ?_
    show Steps p.tables e below (T2.setTop (mkF m 39 #[.val (.ref a1), .val (.int p1), .val (.int p2), .val (.ref p3)] [(.long (((p1.toInt64) * (p2.toInt64)) * (4 : Int64))), (.long (nn.toInt64))])) _
    refine XT.lcmp X2.here hx rfl (hb hby d1_39) rfl ?_
    show Steps p.tables e below (T2.setTop (mkF m 40 #[.val (.ref a1), .val (.int p1), .val (.int p2), .val (.ref p3)] [(.int (XT.cmpL (nn.toInt64) (((p1.toInt64) * (p2.toInt64)) * (4 : Int64))))])) _
    refine XS.ifYes X2.here hx rfl (pc0 := 40) (pc' := 69) rfl (hb hby d1_40) rfl (XT.ll_eq_t hq) (by decide) (by decide) ?_
    show Steps p.tables e below (T2.setTop (mkF m 69 #[.val (.ref a1), .val (.int p1), .val (.int p2), .val (.ref p3)] [])) _
    refine XS.aloadN X2.here hx rfl (hb hby d1_69) rfl rfl ?_
    show Steps p.tables e below (T2.setTop (mkF m 70 #[.val (.ref a1), .val (.int p1), .val (.int p2), .val (.ref p3)] [(.ref a1)])) _
    refine XS.iloadN X2.here hx rfl (hb hby d1_70) rfl ?_
    show Steps p.tables e below (T2.setTop (mkF m 71 #[.val (.ref a1), .val (.int p1), .val (.int p2), .val (.ref p3)] [(.int p1), (.ref a1)])) _
    exact k
  obtain ⟨T9, h9, X9, e9, W9, st9⟩ := putF X2 hx hZ hown (host := "") (Or.inl (hw _ (List.mem_of_getElem? (i := 11) rfl))) Via.refl e2 F0 E1 (Or.inr ⟨(hw _ (List.mem_of_getElem? (i := 12) rfl)), rfl, hnm⟩) (hw _ (List.mem_of_getElem? (i := 2) rfl)) (ty := .int) (by decide) rfl rfl (g := (mkF m 71 #[.val (.ref a1), .val (.int p1), .val (.int p2), .val (.ref p3)] [(.int p1), (.ref a1)])) rfl rfl (hb hby d1_71)
  have N9 := Fr.snoc X9 N0 ga1
  have pre10 : ∀ t, Steps p.tables e below (T9.setTop (mkF m 74 #[.val (.ref a1), .val (.int p1), .val (.int p2), .val (.ref p3)] [])) t → Steps p.tables e below (s₁.setTop (entryFrame m #[(.ref a1), (.int p1), (.int p2), (.ref p3)] 4)) t := fun t k => pre8 t (st9 t k)
  obtain ⟨Lo11, Xo11, No11⟩ : ∃ L, Stand p l e ({ frames := 1, cells := 1, slots := 48, locals := 15 } : Room) s m #[(.ref a1), (.int p1), (.int p2), (.ref p3)] below meth c T9 L 0 0 ∧ Fr n0 L := ⟨_, X9, N9⟩
  have F12_0 : Fld Z h9 a1 "com/example/facetwork/facetwork/image/RgbaImage" "width" "I" (.int p1) := (F0.same W9)
  have F12_1 : Fld Z h9 a1 "com/example/facetwork/facetwork/image/RgbaImage" "height" "I" (.int (0 : Int32)) := (F1.other W9 (Or.inr (slot_ne (Or.inr (hw _ (List.mem_of_getElem? (i := 14) rfl))) (Or.inr (hw _ (List.mem_of_getElem? (i := 12) rfl))) (by decide) (t := .int) (t' := .int) (by decide) (by decide))))
  have F12_2 : Fld Z h9 a1 "com/example/facetwork/facetwork/image/RgbaImage" "pixels" "[B" .null := (F2.other W9 (Or.inr (slot_ne (Or.inr (hw _ (List.mem_of_getElem? (i := 25) rfl))) (Or.inr (hw _ (List.mem_of_getElem? (i := 12) rfl))) (by decide) (t := (.array .byte)) (t' := .int) (by decide) (by decide))))
  have E12_0 : Exa Z h9 a1 "com/example/facetwork/facetwork/image/RgbaImage" := (E1.wr W9)
  have E12_1 : Exa Z h9 p3 "[B" := (E3.wr W9)
  have V12_0 : Arv Z h9 p3 kk .byte nn vs (.int (0 : Int32)) := (V0.other W9 n13.symm)
  have K12 : Keep h0 h9 [a1] := (K6.wr W9 (Or.inl (List.mem_of_getElem? (i := 0) rfl)))
  have Z12 : n0 ≤ h9.size := (Nat.le_trans Z0 (Nat.le_of_eq W9.size.symm))
  have pre14 : ∀ t, Steps p.tables e below (T9.setTop (mkF m 76 #[.val (.ref a1), .val (.int p1), .val (.int p2), .val (.ref p3)] [(.int p2), (.ref a1)])) t → Steps p.tables e below (s₁.setTop (entryFrame m #[(.ref a1), (.int p1), (.int p2), (.ref p3)] 4)) t := by
    intro t k
    refine pre10 t ?_
    refine XS.aloadN Xo11.here hx rfl (hb hby d1_74) rfl rfl ?_
    show Steps p.tables e below (T9.setTop (mkF m 75 #[.val (.ref a1), .val (.int p1), .val (.int p2), .val (.ref p3)] [(.ref a1)])) _
    refine XS.iloadN Xo11.here hx rfl (hb hby d1_75) rfl ?_
    show Steps p.tables e below (T9.setTop (mkF m 76 #[.val (.ref a1), .val (.int p1), .val (.int p2), .val (.ref p3)] [(.int p2), (.ref a1)])) _
    exact k
  obtain ⟨T15, h15, X15, e15, W15, st15⟩ := putF Xo11 hx hZ hown (host := "") (Or.inl (hw _ (List.mem_of_getElem? (i := 13) rfl))) Via.refl e9 F12_1 E12_0 (Or.inr ⟨(hw _ (List.mem_of_getElem? (i := 14) rfl)), rfl, hnm⟩) (hw _ (List.mem_of_getElem? (i := 2) rfl)) (ty := .int) (by decide) rfl rfl (g := (mkF m 76 #[.val (.ref a1), .val (.int p1), .val (.int p2), .val (.ref p3)] [(.int p2), (.ref a1)])) rfl rfl (hb hby d1_76)
  have N15 := Fr.snoc X15 No11 ga1
  have pre16 : ∀ t, Steps p.tables e below (T15.setTop (mkF m 79 #[.val (.ref a1), .val (.int p1), .val (.int p2), .val (.ref p3)] [])) t → Steps p.tables e below (s₁.setTop (entryFrame m #[(.ref a1), (.int p1), (.int p2), (.ref p3)] 4)) t := fun t k => pre14 t (st15 t k)
  obtain ⟨Lo17, Xo17, No17⟩ : ∃ L, Stand p l e ({ frames := 1, cells := 1, slots := 48, locals := 15 } : Room) s m #[(.ref a1), (.int p1), (.int p2), (.ref p3)] below meth c T15 L 0 0 ∧ Fr n0 L := ⟨_, X15, N15⟩
  have F18_0 : Fld Z h15 a1 "com/example/facetwork/facetwork/image/RgbaImage" "width" "I" (.int p1) := (F12_0.other W15 (Or.inr (slot_ne (Or.inr (hw _ (List.mem_of_getElem? (i := 12) rfl))) (Or.inr (hw _ (List.mem_of_getElem? (i := 14) rfl))) (by decide) (t := .int) (t' := .int) (by decide) (by decide))))
  have F18_1 : Fld Z h15 a1 "com/example/facetwork/facetwork/image/RgbaImage" "height" "I" (.int p2) := (F12_1.same W15)
  have F18_2 : Fld Z h15 a1 "com/example/facetwork/facetwork/image/RgbaImage" "pixels" "[B" .null := (F12_2.other W15 (Or.inr (slot_ne (Or.inr (hw _ (List.mem_of_getElem? (i := 25) rfl))) (Or.inr (hw _ (List.mem_of_getElem? (i := 14) rfl))) (by decide) (t := (.array .byte)) (t' := .int) (by decide) (by decide))))
  have E18_0 : Exa Z h15 a1 "com/example/facetwork/facetwork/image/RgbaImage" := (E12_0.wr W15)
  have E18_1 : Exa Z h15 p3 "[B" := (E12_1.wr W15)
  have V18_0 : Arv Z h15 p3 kk .byte nn vs (.int (0 : Int32)) := (V12_0.other W15 n13.symm)
  have K18 : Keep h0 h15 [a1] := (K12.wr W15 (Or.inl (List.mem_of_getElem? (i := 0) rfl)))
  have Z18 : n0 ≤ h15.size := (Nat.le_trans Z12 (Nat.le_of_eq W15.size.symm))
  have pre20 : ∀ t, Steps p.tables e below (T15.setTop (mkF m 81 #[.val (.ref a1), .val (.int p1), .val (.int p2), .val (.ref p3)] [(.ref p3), (.ref a1)])) t → Steps p.tables e below (s₁.setTop (entryFrame m #[(.ref a1), (.int p1), (.int p2), (.ref p3)] 4)) t := by
    intro t k
    refine pre16 t ?_
    refine XS.aloadN Xo17.here hx rfl (hb hby d1_79) rfl rfl ?_
    show Steps p.tables e below (T15.setTop (mkF m 80 #[.val (.ref a1), .val (.int p1), .val (.int p2), .val (.ref p3)] [(.ref a1)])) _
    refine XS.aloadN Xo17.here hx rfl (hb hby d1_80) rfl rfl ?_
    show Steps p.tables e below (T15.setTop (mkF m 81 #[.val (.ref a1), .val (.int p1), .val (.int p2), .val (.ref p3)] [(.ref p3), (.ref a1)])) _
    exact k
  obtain ⟨T21, h21, X21, e21, E21, Vh21, Ec21, st21⟩ := cloneH Xo17 hx hZ hown (hw _ (List.mem_of_getElem? (i := 15) rfl)) (hw _ (List.mem_of_getElem? (i := 16) rfl)) (hw _ (List.mem_of_getElem? (i := 20) rfl)) (hw _ (List.mem_of_getElem? (i := 18) rfl)) (hw _ (List.mem_of_getElem? (i := 19) rfl)) (hw _ (List.mem_of_getElem? (i := 21) rfl)) e15 V18_0.arh E18_1 (g := (mkF m 81 #[.val (.ref a1), .val (.int p1), .val (.int p2), .val (.ref p3)] [(.ref p3), (.ref a1)])) rfl (by rw [hml]; rfl) (rest := [(.ref a1)]) rfl (hb hby d1_81) (by decide) (W := 1) (cap := 48) (by show 2 * 0 + _ ≤ _; exact Nat.le_of_eq rfl) (by decide) hcap (by decide) (by decide)
  obtain ⟨pa, gz21⟩ : ∃ z, z = h15.size := ⟨_, rfl⟩
  rw [← gz21] at Vh21 Ec21 st21
  have g_pa : n0 ≤ pa := Nat.le_trans Z18 (Nat.le_of_eq gz21.symm)
  have s_pa : h0.size ≤ pa := Nat.le_trans K18.1 (Nat.le_of_eq gz21.symm)
  have ne_a1_pa : a1 ≠ pa := by rw [gz21]; exact Nat.ne_of_lt F18_0.lt
  have ne_p3_pa : p3 ≠ pa := by rw [gz21]; exact Nat.ne_of_lt E18_1.lt
  have V21 : Arv Z h21 pa kk .byte nn vs (.int (0 : Int32)) := Vh21
  have pre22 : ∀ t, Steps p.tables e below (T21.setTop (mkF m 84 #[.val (.ref a1), .val (.int p1), .val (.int p2), .val (.ref p3)] [(.ref pa), (.ref a1)])) t → Steps p.tables e below (s₁.setTop (entryFrame m #[(.ref a1), (.int p1), (.int p2), (.ref p3)] 4)) t := fun t k => pre20 t (st21 t k)
  have F23_0 : Fld Z h21 a1 "com/example/facetwork/facetwork/image/RgbaImage" "width" "I" (.int p1) := (F18_0.ext E21)
  have F23_1 : Fld Z h21 a1 "com/example/facetwork/facetwork/image/RgbaImage" "height" "I" (.int p2) := (F18_1.ext E21)
  have F23_2 : Fld Z h21 a1 "com/example/facetwork/facetwork/image/RgbaImage" "pixels" "[B" .null := (F18_2.ext E21)
  have E23_0 : Exa Z h21 a1 "com/example/facetwork/facetwork/image/RgbaImage" := (E18_0.ext E21)
  have E23_1 : Exa Z h21 p3 "[B" := (E18_1.ext E21)
  have V23_0 : Arv Z h21 p3 kk .byte nn vs (.int (0 : Int32)) := (V18_0.ext E21)
  have K23 : Keep h0 h21 [a1] := (K18.ext E21)
  have Z23 : n0 ≤ h21.size := (Nat.le_trans Z18 E21.1)
  obtain ⟨T25, X25, e25, st25⟩ := castY X21 hx hZ hown (hw _ (List.mem_of_getElem? (i := 22) rfl)) e21 (Ins.self Ec21) (g := (mkF m 84 #[.val (.ref a1), .val (.int p1), .val (.int p2), .val (.ref p3)] [(.ref pa), (.ref a1)])) rfl rfl (hb hby d1_84)
  have pre26 : ∀ t, Steps p.tables e below (T25.setTop (mkF m 87 #[.val (.ref a1), .val (.int p1), .val (.int p2), .val (.ref p3)] [(.ref pa), (.ref a1)])) t → Steps p.tables e below (s₁.setTop (entryFrame m #[(.ref a1), (.int p1), (.int p2), (.ref p3)] 4)) t := fun t k => pre22 t (st25 t k)
  obtain ⟨T28, h28, X28, e28, W28, st28⟩ := putF X25 hx hZ hown (host := "") (Or.inl (hw _ (List.mem_of_getElem? (i := 24) rfl))) Via.refl e25 F23_2 E23_0 (Or.inr ⟨(hw _ (List.mem_of_getElem? (i := 25) rfl)), rfl, hnm⟩) (hw _ (List.mem_of_getElem? (i := 2) rfl)) (ty := (.array .byte)) (by decide) rfl rfl (g := (mkF m 87 #[.val (.ref a1), .val (.int p1), .val (.int p2), .val (.ref p3)] [(.ref pa), (.ref a1)])) rfl rfl (hb hby d1_87)
  have N28 := Fr.snoc X28 No17 ga1
  have pre29 : ∀ t, Steps p.tables e below (T28.setTop (mkF m 90 #[.val (.ref a1), .val (.int p1), .val (.int p2), .val (.ref p3)] [])) t → Steps p.tables e below (s₁.setTop (entryFrame m #[(.ref a1), (.int p1), (.int p2), (.ref p3)] 4)) t := fun t k => pre26 t (st28 t k)
  obtain ⟨Lo30, Xo30, No30⟩ : ∃ L, Stand p l e ({ frames := 1, cells := 1, slots := 48, locals := 15 } : Room) s m #[(.ref a1), (.int p1), (.int p2), (.ref p3)] below meth c T28 L 1 48 ∧ Fr n0 L := ⟨_, X28, N28⟩
  have F31_0 : Fld Z h28 a1 "com/example/facetwork/facetwork/image/RgbaImage" "width" "I" (.int p1) := (F23_0.other W28 (Or.inr (slot_ne (Or.inr (hw _ (List.mem_of_getElem? (i := 12) rfl))) (Or.inr (hw _ (List.mem_of_getElem? (i := 25) rfl))) (by decide) (t := .int) (t' := (.array .byte)) (by decide) (by decide))))
  have F31_1 : Fld Z h28 a1 "com/example/facetwork/facetwork/image/RgbaImage" "height" "I" (.int p2) := (F23_1.other W28 (Or.inr (slot_ne (Or.inr (hw _ (List.mem_of_getElem? (i := 14) rfl))) (Or.inr (hw _ (List.mem_of_getElem? (i := 25) rfl))) (by decide) (t := .int) (t' := (.array .byte)) (by decide) (by decide))))
  have F31_2 : Fld Z h28 a1 "com/example/facetwork/facetwork/image/RgbaImage" "pixels" "[B" (.ref pa) := (F23_2.same W28)
  have E31_0 : Exa Z h28 a1 "com/example/facetwork/facetwork/image/RgbaImage" := (E23_0.wr W28)
  have E31_1 : Exa Z h28 p3 "[B" := (E23_1.wr W28)
  have E31_2 : Exa Z h28 pa "[B" := (Ec21.wr W28)
  have V31_0 : Arv Z h28 p3 kk .byte nn vs (.int (0 : Int32)) := (V23_0.other W28 n13.symm)
  have V31_1 : Arv Z h28 pa kk .byte nn vs (.int (0 : Int32)) := (V21.other W28 ne_a1_pa.symm)
  have K31 : Keep h0 h28 [a1] := (K23.wr W28 (Or.inl (List.mem_of_getElem? (i := 0) rfl)))
  have Z31 : n0 ≤ h28.size := (Nat.le_trans Z23 (Nat.le_of_eq W28.size.symm))
  obtain ⟨fs, hr, hrun, hended, hW, hsame⟩ := Xo30.leave (v := none) (fun _ => rfl)
  refine ⟨_, _, pre29 _ ?_, hrun, hended, _, _, rfl, ?_, ⟨_, rfl⟩, hW, hsame.mono (by decide) (by decide)⟩
  · exact Xo30.returnOut hx Bd.returns (hb hby d1_90) hr
  · show Q1 Z a1 p1 p2 p3 kk nn vs h0 n0 _ T28.heap _
    rw [e28]
    exact ⟨pa, rfl, No30, K31, s_pa, F31_0, F31_1, F31_2, E31_2, V31_1⟩
theorem pn_4 : plainName "com/example/facetwork/facetwork/image/RgbaImage" = true := by first | (simp [plainName, overriddenIn]; done) | decide +kernel
theorem d4_0 : decode prog_4_method_2_code 0 = .ok (.aload_n 0, 1) := by decide +kernel
theorem d4_1 : decode prog_4_method_2_code 1 = .ok (.getfield 21, 3) := by decide +kernel
theorem d4_4 : decode prog_4_method_2_code 4 = .ok (.ireturn, 1) := by decide +kernel
theorem ef_4 (m : MethodId) (a1 : Addr) : entryFrame m #[(.ref a1)] 1 = mkF m 0 #[.val (.ref a1)] [] := by first | (simp [entryFrame, mkF, argsToLocals, Value.category]; done) | rfl
def Q4 (Z : State) (a1 : Addr) (q1 : Int32) (h0 : Heap) (n0 : Nat) (v : Option Value) (h : Heap) (L : List Loc) : Prop := v = some (.int q1) ∧ Fr n0 L ∧ h = h0
set_option maxRecDepth 65536 in
set_option maxHeartbeats 40000000 in
theorem rm4 (l : Launch) (Z : State) (a0 : Array Value) (hw : ∀ d ∈ tables_1, d.before a0 Z = true) (ws : List Jvm.Cond) (a1 : Addr) (q1 : Int32) (h0 : Heap) (n0 : Nat) (Z0 : n0 ≤ h0.size) (F0 : Fld Z h0 a1 "com/example/facetwork/facetwork/image/RgbaImage" "width" "I" (.int q1)) :
    MetFree l (⟨"com/example/facetwork/facetwork/image/RgbaImage", "width", "()I"⟩ : MethodName) (head1 (Jvm.Cond.code (⟨"com/example/facetwork/facetwork/image/RgbaImage", "width", "()I"⟩ : MethodName) prog_4_method_2_code 1 (some .int) :: ws) ({ frames := 0, cells := 0, slots := 0, locals := 0 } : Room)) (fun a U => a = #[(.ref a1)] ∧ Z.Warmed39 U.vm ∧ U.heap = h0) (fun _ _ _ _ _ => True) (fun _ U o U' => ∃ v L, o = .returned v ∧ Q4 Z a1 q1 h0 n0 v U'.heap L ∧ FrameEnd U o U' L ({ frames := 0, cells := 0, slots := 0, locals := 0 } : Room).cells ({ frames := 0, cells := 0, slots := 0, locals := 0 } : Room).slots) := by
  refine MetFree.of_bodySF (plainFor_of_name pn_4) hisR ?_
  intro p e s m args below meth c s₁ Bd hml0 hP hK
  obtain ⟨rfl, hZ, hh⟩ := hP
  have hx := Bd.exec
  have hby := Bd.bytes
  have hml : c.maxLocals = 1 := hml0
  have hown : s.vm.findClass "com/example/facetwork/facetwork/image/RgbaImage" = some m.cls := findClass_of_methodNamed Bd.named
  have hnm := (name_of_methodNamed Bd.named Bd.method).1
  have X0 : Stand p l e ({ frames := 0, cells := 0, slots := 0, locals := 0 } : Room) s m #[(.ref a1)] below meth c s₁ [] 0 0 := Stand.of_body Bd
  have e0 : s₁.heap = h0 := by rw [← hh, Bd.state]; rfl
  have N0 := Fr.nil n0
  have pre0 : ∀ t, Steps p.tables e below (s₁.setTop (mkF m 0 #[.val (.ref a1)] [])) t → Steps p.tables e below (s₁.setTop (entryFrame m #[(.ref a1)] 1)) t := fun t k => castTop (ef_4 m a1) k
  have pre1 : ∀ t, Steps p.tables e below (s₁.setTop (mkF m 1 #[.val (.ref a1)] [(.ref a1)])) t → Steps p.tables e below (s₁.setTop (entryFrame m #[(.ref a1)] 1)) t := by
    intro t k
    refine pre0 t ?_
    refine XS.aloadN X0.here hx rfl (hb hby d4_0) rfl rfl ?_
    show Steps p.tables e below (s₁.setTop (mkF m 1 #[.val (.ref a1)] [(.ref a1)])) _
    exact k
  obtain ⟨T2, X2, e2, st2⟩ := getF X0 hx hZ hown (host := "") (Or.inl (hw _ (List.mem_of_getElem? (i := 11) rfl))) Via.refl e0 F0 (g := (mkF m 1 #[.val (.ref a1)] [(.ref a1)])) rfl rfl (hb hby d4_1)
  have pre3 : ∀ t, Steps p.tables e below (T2.setTop (mkF m 4 #[.val (.ref a1)] [(.int q1)])) t → Steps p.tables e below (s₁.setTop (entryFrame m #[(.ref a1)] 1)) t := fun t k => pre1 t (st2 t k)
  obtain ⟨fs, hr, hrun, hended, hW, hsame⟩ := X2.leave (v := some (.int q1)) (fun h => by rw [Bd.returns] at h; cases h)
  refine ⟨_, _, pre3 _ ?_, hrun, hended, _, _, rfl, ?_, ⟨_, rfl⟩, hW, hsame.mono (by decide) (by decide)⟩
  · exact retOut X2 hx Bd.returns rfl (Or.inl ⟨rfl, by simp, _, rfl⟩) (hb hby d4_4) hr
  · show Q4 Z a1 q1 h0 n0 _ T2.heap _
    rw [e2]
    exact ⟨rfl, N0, rfl⟩
theorem pn_5 : plainName "com/example/facetwork/facetwork/image/RgbaImage" = true := by first | (simp [plainName, overriddenIn]; done) | decide +kernel
theorem d5_0 : decode prog_4_method_3_code 0 = .ok (.aload_n 0, 1) := by decide +kernel
theorem d5_1 : decode prog_4_method_3_code 1 = .ok (.getfield 27, 3) := by decide +kernel
theorem d5_4 : decode prog_4_method_3_code 4 = .ok (.ireturn, 1) := by decide +kernel
theorem ef_5 (m : MethodId) (a1 : Addr) : entryFrame m #[(.ref a1)] 1 = mkF m 0 #[.val (.ref a1)] [] := by first | (simp [entryFrame, mkF, argsToLocals, Value.category]; done) | rfl
def Q5 (Z : State) (a1 : Addr) (q1 : Int32) (h0 : Heap) (n0 : Nat) (v : Option Value) (h : Heap) (L : List Loc) : Prop := v = some (.int q1) ∧ Fr n0 L ∧ h = h0
set_option maxRecDepth 65536 in
set_option maxHeartbeats 40000000 in
theorem rm5 (l : Launch) (Z : State) (a0 : Array Value) (hw : ∀ d ∈ tables_1, d.before a0 Z = true) (ws : List Jvm.Cond) (a1 : Addr) (q1 : Int32) (h0 : Heap) (n0 : Nat) (Z0 : n0 ≤ h0.size) (F0 : Fld Z h0 a1 "com/example/facetwork/facetwork/image/RgbaImage" "height" "I" (.int q1)) :
    MetFree l (⟨"com/example/facetwork/facetwork/image/RgbaImage", "height", "()I"⟩ : MethodName) (head1 (Jvm.Cond.code (⟨"com/example/facetwork/facetwork/image/RgbaImage", "height", "()I"⟩ : MethodName) prog_4_method_3_code 1 (some .int) :: ws) ({ frames := 0, cells := 0, slots := 0, locals := 0 } : Room)) (fun a U => a = #[(.ref a1)] ∧ Z.Warmed39 U.vm ∧ U.heap = h0) (fun _ _ _ _ _ => True) (fun _ U o U' => ∃ v L, o = .returned v ∧ Q5 Z a1 q1 h0 n0 v U'.heap L ∧ FrameEnd U o U' L ({ frames := 0, cells := 0, slots := 0, locals := 0 } : Room).cells ({ frames := 0, cells := 0, slots := 0, locals := 0 } : Room).slots) := by
  refine MetFree.of_bodySF (plainFor_of_name pn_5) hisR ?_
  intro p e s m args below meth c s₁ Bd hml0 hP hK
  obtain ⟨rfl, hZ, hh⟩ := hP
  have hx := Bd.exec
  have hby := Bd.bytes
  have hml : c.maxLocals = 1 := hml0
  have hown : s.vm.findClass "com/example/facetwork/facetwork/image/RgbaImage" = some m.cls := findClass_of_methodNamed Bd.named
  have hnm := (name_of_methodNamed Bd.named Bd.method).1
  have X0 : Stand p l e ({ frames := 0, cells := 0, slots := 0, locals := 0 } : Room) s m #[(.ref a1)] below meth c s₁ [] 0 0 := Stand.of_body Bd
  have e0 : s₁.heap = h0 := by rw [← hh, Bd.state]; rfl
  have N0 := Fr.nil n0
  have pre0 : ∀ t, Steps p.tables e below (s₁.setTop (mkF m 0 #[.val (.ref a1)] [])) t → Steps p.tables e below (s₁.setTop (entryFrame m #[(.ref a1)] 1)) t := fun t k => castTop (ef_5 m a1) k
  have pre1 : ∀ t, Steps p.tables e below (s₁.setTop (mkF m 1 #[.val (.ref a1)] [(.ref a1)])) t → Steps p.tables e below (s₁.setTop (entryFrame m #[(.ref a1)] 1)) t := by
    intro t k
    refine pre0 t ?_
    refine XS.aloadN X0.here hx rfl (hb hby d5_0) rfl rfl ?_
    show Steps p.tables e below (s₁.setTop (mkF m 1 #[.val (.ref a1)] [(.ref a1)])) _
    exact k
  obtain ⟨T2, X2, e2, st2⟩ := getF X0 hx hZ hown (host := "") (Or.inl (hw _ (List.mem_of_getElem? (i := 13) rfl))) Via.refl e0 F0 (g := (mkF m 1 #[.val (.ref a1)] [(.ref a1)])) rfl rfl (hb hby d5_1)
  have pre3 : ∀ t, Steps p.tables e below (T2.setTop (mkF m 4 #[.val (.ref a1)] [(.int q1)])) t → Steps p.tables e below (s₁.setTop (entryFrame m #[(.ref a1)] 1)) t := fun t k => pre1 t (st2 t k)
  obtain ⟨fs, hr, hrun, hended, hW, hsame⟩ := X2.leave (v := some (.int q1)) (fun h => by rw [Bd.returns] at h; cases h)
  refine ⟨_, _, pre3 _ ?_, hrun, hended, _, _, rfl, ?_, ⟨_, rfl⟩, hW, hsame.mono (by decide) (by decide)⟩
  · exact retOut X2 hx Bd.returns rfl (Or.inl ⟨rfl, by simp, _, rfl⟩) (hb hby d5_4) hr
  · show Q5 Z a1 q1 h0 n0 _ T2.heap _
    rw [e2]
    exact ⟨rfl, N0, rfl⟩
theorem pn_6 : plainName "com/example/facetwork/facetwork/image/RgbaImage" = true := by first | (simp [plainName, overriddenIn]; done) | decide +kernel
theorem d6_0 : decode prog_4_method_4_code 0 = .ok (.aload_n 0, 1) := by decide +kernel
theorem d6_1 : decode prog_4_method_4_code 1 = .ok (.getfield 36, 3) := by decide +kernel
theorem d6_4 : decode prog_4_method_4_code 4 = .ok (.invokevirtual 30, 3) := by decide +kernel
theorem d6_7 : decode prog_4_method_4_code 7 = .ok (.checkcast 31, 3) := by decide +kernel
theorem d6_10 : decode prog_4_method_4_code 10 = .ok (.areturn, 1) := by decide +kernel
theorem ef_6 (m : MethodId) (a1 : Addr) : entryFrame m #[(.ref a1)] 1 = mkF m 0 #[.val (.ref a1)] [] := by first | (simp [entryFrame, mkF, argsToLocals, Value.category]; done) | rfl
def Q6 (Z : State) (a1 : Addr) (pa : Addr) (kk : ClassId) (nn : Int32) (vs : List Value) (h0 : Heap) (n0 : Nat) (v : Option Value) (h : Heap) (L : List Loc) : Prop := ∃ b : Addr, v = some (.ref b) ∧ Fr n0 L ∧ Keep h0 h [] ∧ Arv Z h b kk .byte nn vs (.int (0 : Int32))
set_option maxRecDepth 65536 in
set_option maxHeartbeats 40000000 in
theorem rm6 (l : Launch) (Z : State) (a0 : Array Value) (hw : ∀ d ∈ tables_1, d.before a0 Z = true) (ws : List Jvm.Cond) (a1 : Addr) (pa : Addr) (kk : ClassId) (nn : Int32) (vs : List Value) (h0 : Heap) (n0 : Nat) (Z0 : n0 ≤ h0.size) (F2 : Fld Z h0 a1 "com/example/facetwork/facetwork/image/RgbaImage" "pixels" "[B" (.ref pa)) (E3 : Exa Z h0 pa "[B") (V0 : Arv Z h0 pa kk .byte nn vs (.int (0 : Int32))) (hcap : nn.toNatClampNeg ≤ 48) :
    MetFree l (⟨"com/example/facetwork/facetwork/image/RgbaImage", "pixels", "()[B"⟩ : MethodName) (head1 (Jvm.Cond.code (⟨"com/example/facetwork/facetwork/image/RgbaImage", "pixels", "()[B"⟩ : MethodName) prog_4_method_4_code 1 (some (.array .byte)) :: ws) ({ frames := 1, cells := 1, slots := 48, locals := 14 } : Room)) (fun a U => a = #[(.ref a1)] ∧ Z.Warmed39 U.vm ∧ U.heap = h0) (fun _ _ _ _ _ => True) (fun _ U o U' => ∃ v L, o = .returned v ∧ Q6 Z a1 pa kk nn vs h0 n0 v U'.heap L ∧ FrameEnd U o U' L ({ frames := 1, cells := 1, slots := 48, locals := 14 } : Room).cells ({ frames := 1, cells := 1, slots := 48, locals := 14 } : Room).slots) := by
  refine MetFree.of_bodySF (plainFor_of_name pn_6) hisR ?_
  intro p e s m args below meth c s₁ Bd hml0 hP hK
  obtain ⟨rfl, hZ, hh⟩ := hP
  have hx := Bd.exec
  have hby := Bd.bytes
  have hml : c.maxLocals = 1 := hml0
  have hown : s.vm.findClass "com/example/facetwork/facetwork/image/RgbaImage" = some m.cls := findClass_of_methodNamed Bd.named
  have hnm := (name_of_methodNamed Bd.named Bd.method).1
  have X0 : Stand p l e ({ frames := 1, cells := 1, slots := 48, locals := 14 } : Room) s m #[(.ref a1)] below meth c s₁ [] 0 0 := Stand.of_body Bd
  have e0 : s₁.heap = h0 := by rw [← hh, Bd.state]; rfl
  have N0 := Fr.nil n0
  have pre0 : ∀ t, Steps p.tables e below (s₁.setTop (mkF m 0 #[.val (.ref a1)] [])) t → Steps p.tables e below (s₁.setTop (entryFrame m #[(.ref a1)] 1)) t := fun t k => castTop (ef_6 m a1) k
  have pre1 : ∀ t, Steps p.tables e below (s₁.setTop (mkF m 1 #[.val (.ref a1)] [(.ref a1)])) t → Steps p.tables e below (s₁.setTop (entryFrame m #[(.ref a1)] 1)) t := by
    intro t k
    refine pre0 t ?_
    refine XS.aloadN X0.here hx rfl (hb hby d6_0) rfl rfl ?_
    show Steps p.tables e below (s₁.setTop (mkF m 1 #[.val (.ref a1)] [(.ref a1)])) _
    exact k
  obtain ⟨T2, X2, e2, st2⟩ := getF X0 hx hZ hown (host := "") (Or.inl (hw _ (List.mem_of_getElem? (i := 24) rfl))) Via.refl e0 F2 (g := (mkF m 1 #[.val (.ref a1)] [(.ref a1)])) rfl rfl (hb hby d6_1)
  have pre3 : ∀ t, Steps p.tables e below (T2.setTop (mkF m 4 #[.val (.ref a1)] [(.ref pa)])) t → Steps p.tables e below (s₁.setTop (entryFrame m #[(.ref a1)] 1)) t := fun t k => pre1 t (st2 t k)
  have K4 : Keep h0 h0 [] := (Keep.refl h0 [])
  obtain ⟨T5, h5, X5, e5, E5, Vh5, Ec5, st5⟩ := cloneH X2 hx hZ hown (hw _ (List.mem_of_getElem? (i := 15) rfl)) (hw _ (List.mem_of_getElem? (i := 16) rfl)) (hw _ (List.mem_of_getElem? (i := 20) rfl)) (hw _ (List.mem_of_getElem? (i := 18) rfl)) (hw _ (List.mem_of_getElem? (i := 19) rfl)) (hw _ (List.mem_of_getElem? (i := 21) rfl)) e2 V0.arh E3 (g := (mkF m 4 #[.val (.ref a1)] [(.ref pa)])) rfl (by rw [hml]; rfl) (rest := []) rfl (hb hby d6_4) (by decide) (W := 0) (cap := 48) (by show 2 * 0 + _ ≤ _; exact Nat.le_of_eq rfl) (by decide) hcap (by decide) (by decide)
  obtain ⟨b, gz5⟩ : ∃ z, z = h0.size := ⟨_, rfl⟩
  rw [← gz5] at Vh5 Ec5 st5
  have g_b : n0 ≤ b := Nat.le_trans Z0 (Nat.le_of_eq gz5.symm)
  have s_b : h0.size ≤ b := Nat.le_trans K4.1 (Nat.le_of_eq gz5.symm)
  have ne_a1_b : a1 ≠ b := by rw [gz5]; exact Nat.ne_of_lt F2.lt
  have ne_pa_b : pa ≠ b := by rw [gz5]; exact Nat.ne_of_lt E3.lt
  have V5 : Arv Z h5 b kk .byte nn vs (.int (0 : Int32)) := Vh5
  have pre6 : ∀ t, Steps p.tables e below (T5.setTop (mkF m 7 #[.val (.ref a1)] [(.ref b)])) t → Steps p.tables e below (s₁.setTop (entryFrame m #[(.ref a1)] 1)) t := fun t k => pre3 t (st5 t k)
  have F7_0 : Fld Z h5 a1 "com/example/facetwork/facetwork/image/RgbaImage" "pixels" "[B" (.ref pa) := (F2.ext E5)
  have E7_0 : Exa Z h5 pa "[B" := (E3.ext E5)
  have V7_0 : Arv Z h5 pa kk .byte nn vs (.int (0 : Int32)) := (V0.ext E5)
  have K7 : Keep h0 h5 [] := (K4.ext E5)
  have Z7 : n0 ≤ h5.size := (Nat.le_trans Z0 E5.1)
  obtain ⟨T9, X9, e9, st9⟩ := castY X5 hx hZ hown (hw _ (List.mem_of_getElem? (i := 22) rfl)) e5 (Ins.self Ec5) (g := (mkF m 7 #[.val (.ref a1)] [(.ref b)])) rfl rfl (hb hby d6_7)
  have pre10 : ∀ t, Steps p.tables e below (T9.setTop (mkF m 10 #[.val (.ref a1)] [(.ref b)])) t → Steps p.tables e below (s₁.setTop (entryFrame m #[(.ref a1)] 1)) t := fun t k => pre6 t (st9 t k)
  obtain ⟨fs, hr, hrun, hended, hW, hsame⟩ := X9.leave (v := some (.ref b)) (fun h => by rw [Bd.returns] at h; cases h)
  refine ⟨_, _, pre10 _ ?_, hrun, hended, _, _, rfl, ?_, ⟨_, rfl⟩, hW, hsame.mono (by decide) (by decide)⟩
  · exact retOut X9 hx Bd.returns rfl (Or.inr (Or.inr (Or.inr (Or.inr ⟨rfl, rfl, rfl⟩)))) (hb hby d6_10) hr
  · show Q6 Z a1 pa kk nn vs h0 n0 _ T9.heap _
    rw [e9]
    exact ⟨b, rfl, N0, K7, V5⟩
theorem pd_img : parseMethodDescriptor "(II[B)V" = some ⟨[.int, .int, (.array .byte)], none⟩ := by decide +kernel
theorem pn_3 : plainName "com/example/facetwork/facetwork/image/RgbaImage" = true := by first | (simp [plainName, overriddenIn]; done) | decide +kernel
theorem d3_0 : decode prog_4_method_5_code 0 = .ok (.iload_n 1, 1) := by decide +kernel
theorem d3_1 : decode prog_4_method_5_code 1 = .ok (.ifCond .lt 37, 3) := by decide +kernel
theorem d3_4 : decode prog_4_method_5_code 4 = .ok (.iload_n 2, 1) := by decide +kernel
theorem d3_5 : decode prog_4_method_5_code 5 = .ok (.ifCond .lt 33, 3) := by decide +kernel
theorem d3_8 : decode prog_4_method_5_code 8 = .ok (.iload_n 3, 1) := by decide +kernel
theorem d3_9 : decode prog_4_method_5_code 9 = .ok (.ifCond .le 29, 3) := by decide +kernel
theorem d3_12 : decode prog_4_method_5_code 12 = .ok (.iload 4, 2) := by decide +kernel
theorem d3_14 : decode prog_4_method_5_code 14 = .ok (.ifCond .le 24, 3) := by decide +kernel
theorem d3_17 : decode prog_4_method_5_code 17 = .ok (.iload_n 3, 1) := by decide +kernel
theorem d3_18 : decode prog_4_method_5_code 18 = .ok (.aload_n 0, 1) := by decide +kernel
theorem d3_19 : decode prog_4_method_5_code 19 = .ok (.getfield 21, 3) := by decide +kernel
theorem d3_22 : decode prog_4_method_5_code 22 = .ok (.iload_n 1, 1) := by decide +kernel
theorem d3_23 : decode prog_4_method_5_code 23 = .ok (.isub, 1) := by decide +kernel
theorem d3_24 : decode prog_4_method_5_code 24 = .ok (.if_icmp .gt 14, 3) := by decide +kernel
theorem d3_27 : decode prog_4_method_5_code 27 = .ok (.iload 4, 2) := by decide +kernel
theorem d3_29 : decode prog_4_method_5_code 29 = .ok (.aload_n 0, 1) := by decide +kernel
theorem d3_30 : decode prog_4_method_5_code 30 = .ok (.getfield 27, 3) := by decide +kernel
theorem d3_33 : decode prog_4_method_5_code 33 = .ok (.iload_n 2, 1) := by decide +kernel
theorem d3_34 : decode prog_4_method_5_code 34 = .ok (.isub, 1) := by decide +kernel
theorem d3_35 : decode prog_4_method_5_code 35 = .ok (.if_icmp .le 29, 3) := by decide +kernel
theorem d3_64 : decode prog_4_method_5_code 64 = .ok (.iload_n 3, 1) := by decide +kernel
theorem d3_65 : decode prog_4_method_5_code 65 = .ok (.iload 4, 2) := by decide +kernel
theorem d3_67 : decode prog_4_method_5_code 67 = .ok (.imul, 1) := by decide +kernel
theorem d3_68 : decode prog_4_method_5_code 68 = .ok (.iconst 4, 1) := by decide +kernel
theorem d3_69 : decode prog_4_method_5_code 69 = .ok (.imul, 1) := by decide +kernel
theorem d3_70 : decode prog_4_method_5_code 70 = .ok (.newarray .byte, 2) := by decide +kernel
theorem d3_72 : decode prog_4_method_5_code 72 = .ok (.astore 5, 2) := by decide +kernel
theorem d3_74 : decode prog_4_method_5_code 74 = .ok (.iload_n 3, 1) := by decide +kernel
theorem d3_75 : decode prog_4_method_5_code 75 = .ok (.iconst 4, 1) := by decide +kernel
theorem d3_76 : decode prog_4_method_5_code 76 = .ok (.imul, 1) := by decide +kernel
theorem d3_77 : decode prog_4_method_5_code 77 = .ok (.istore 6, 2) := by decide +kernel
theorem d3_79 : decode prog_4_method_5_code 79 = .ok (.iconst 0, 1) := by decide +kernel
theorem d3_80 : decode prog_4_method_5_code 80 = .ok (.istore 7, 2) := by decide +kernel
theorem d3_82 : decode prog_4_method_5_code 82 = .ok (.iload 7, 2) := by decide +kernel
theorem d3_84 : decode prog_4_method_5_code 84 = .ok (.iload 4, 2) := by decide +kernel
theorem d3_86 : decode prog_4_method_5_code 86 = .ok (.if_icmp .ge 38, 3) := by decide +kernel
theorem d3_89 : decode prog_4_method_5_code 89 = .ok (.aload_n 0, 1) := by decide +kernel
theorem d3_90 : decode prog_4_method_5_code 90 = .ok (.getfield 36, 3) := by decide +kernel
theorem d3_93 : decode prog_4_method_5_code 93 = .ok (.iload_n 2, 1) := by decide +kernel
theorem d3_94 : decode prog_4_method_5_code 94 = .ok (.iload 7, 2) := by decide +kernel
theorem d3_96 : decode prog_4_method_5_code 96 = .ok (.iadd, 1) := by decide +kernel
theorem d3_97 : decode prog_4_method_5_code 97 = .ok (.aload_n 0, 1) := by decide +kernel
theorem d3_98 : decode prog_4_method_5_code 98 = .ok (.getfield 21, 3) := by decide +kernel
theorem d3_101 : decode prog_4_method_5_code 101 = .ok (.imul, 1) := by decide +kernel
theorem d3_102 : decode prog_4_method_5_code 102 = .ok (.iload_n 1, 1) := by decide +kernel
theorem d3_103 : decode prog_4_method_5_code 103 = .ok (.iadd, 1) := by decide +kernel
theorem d3_104 : decode prog_4_method_5_code 104 = .ok (.iconst 4, 1) := by decide +kernel
theorem d3_105 : decode prog_4_method_5_code 105 = .ok (.imul, 1) := by decide +kernel
theorem d3_106 : decode prog_4_method_5_code 106 = .ok (.aload 5, 2) := by decide +kernel
theorem d3_108 : decode prog_4_method_5_code 108 = .ok (.iload 7, 2) := by decide +kernel
theorem d3_110 : decode prog_4_method_5_code 110 = .ok (.iload 6, 2) := by decide +kernel
theorem d3_112 : decode prog_4_method_5_code 112 = .ok (.imul, 1) := by decide +kernel
theorem d3_113 : decode prog_4_method_5_code 113 = .ok (.iload 6, 2) := by decide +kernel
theorem d3_115 : decode prog_4_method_5_code 115 = .ok (.invokestatic 42, 3) := by decide +kernel
theorem d3_118 : decode prog_4_method_5_code 118 = .ok (.iinc 7 1, 3) := by decide +kernel
theorem d3_121 : decode prog_4_method_5_code 121 = .ok (.goto (-39), 3) := by decide +kernel
theorem d3_124 : decode prog_4_method_5_code 124 = .ok (.new 22, 3) := by decide +kernel
theorem d3_127 : decode prog_4_method_5_code 127 = .ok (.dup, 1) := by decide +kernel
theorem d3_128 : decode prog_4_method_5_code 128 = .ok (.iload_n 3, 1) := by decide +kernel
theorem d3_129 : decode prog_4_method_5_code 129 = .ok (.iload 4, 2) := by decide +kernel
theorem d3_131 : decode prog_4_method_5_code 131 = .ok (.aload 5, 2) := by decide +kernel
theorem d3_133 : decode prog_4_method_5_code 133 = .ok (.invokespecial 48, 3) := by decide +kernel
theorem d3_136 : decode prog_4_method_5_code 136 = .ok (.areturn, 1) := by decide +kernel
theorem ef_3h1 (m : MethodId) (a1 : Addr) (p1 : Int32) (p2 : Int32) (p3 : Int32) : entryFrame m #[(.ref a1), (.int p1), (.int p2), (.int p3), (.int (1 : Int32))] 8 = mkF m 0 #[.val (.ref a1), .val (.int p1), .val (.int p2), .val (.int p3), .val (.int (1 : Int32)), .unset, .unset, .unset] [] := by first | (simp [entryFrame, mkF, argsToLocals, Value.category]; done) | rfl
def Q3h1 (Z : State) (a1 : Addr) (p1 : Int32) (p2 : Int32) (p3 : Int32) (pa : Addr) (kk : ClassId) (vs : List Value) (h0 : Heap) (n0 : Nat) (v : Option Value) (h : Heap) (L : List Loc) : Prop := ∃ (im : Addr) (pb : Addr) (kb : ClassId) (ud : List Value), v = some (.ref im) ∧ Fr n0 L ∧ Keep h0 h [] ∧ Exa Z h im "com/example/facetwork/facetwork/image/RgbaImage" ∧ Fld Z h im "com/example/facetwork/facetwork/image/RgbaImage" "width" "I" (.int p3) ∧ Fld Z h im "com/example/facetwork/facetwork/image/RgbaImage" "height" "I" (.int (1 : Int32)) ∧ Fld Z h im "com/example/facetwork/facetwork/image/RgbaImage" "pixels" "[B" (.ref pb) ∧ Exa Z h pb "[B" ∧ Arv Z h pb kb .byte ((p3 * (1 : Int32)) * (4 : Int32)) ud (.int (0 : Int32)) ∧ own_rows vs ud p1.toNatClampNeg p2.toNatClampNeg p3.toNatClampNeg 1
set_option maxRecDepth 65536 in
set_option maxHeartbeats 40000000 in
theorem rm3h1 (l : Launch) (Z : State) (a0 : Array Value) (hw : ∀ d ∈ tables_1, d.before a0 Z = true) (ws : List Jvm.Cond) (a1 : Addr) (p1 : Int32) (p2 : Int32) (p3 : Int32) (pa : Addr) (kk : ClassId) (vs : List Value) (h0 : Heap) (n0 : Nat) (Z0 : n0 ≤ h0.size) (F0 : Fld Z h0 a1 "com/example/facetwork/facetwork/image/RgbaImage" "width" "I" (.int (4 : Int32))) (F1 : Fld Z h0 a1 "com/example/facetwork/facetwork/image/RgbaImage" "height" "I" (.int (3 : Int32))) (F2 : Fld Z h0 a1 "com/example/facetwork/facetwork/image/RgbaImage" "pixels" "[B" (.ref pa)) (V0 : Arv Z h0 pa kk .byte (48 : Int32) vs (.int (0 : Int32))) (hx0 : ¬ p1 < 0) (hx3 : p1.toNatClampNeg ≤ 3) (hy0 : ¬ p2 < 0) (hy2 : p2.toNatClampNeg ≤ 2) (hw0 : 0 < p3) (hwx : ¬ ((4 : Int32) - p1) < p3) (hhy : ¬ ((3 : Int32) - p2) < (1 : Int32)) :
    MetFree l (⟨"com/example/facetwork/facetwork/image/RgbaImage", "crop", "(IIII)Lcom/example/facetwork/facetwork/image/RgbaImage;"⟩ : MethodName) (head1 (Jvm.Cond.code (⟨"com/example/facetwork/facetwork/image/RgbaImage", "crop", "(IIII)Lcom/example/facetwork/facetwork/image/RgbaImage;"⟩ : MethodName) prog_4_method_5_code 8 (some (.object "com/example/facetwork/facetwork/image/RgbaImage")) :: ws) ({ frames := 2, cells := 3, slots := 99, locals := 40 } : Room)) (fun a U => a = #[(.ref a1), (.int p1), (.int p2), (.int p3), (.int (1 : Int32))] ∧ Z.Warmed39 U.vm ∧ U.heap = h0) (fun _ _ _ _ _ => True) (fun _ U o U' => ∃ v L, o = .returned v ∧ Q3h1 Z a1 p1 p2 p3 pa kk vs h0 n0 v U'.heap L ∧ FrameEnd U o U' L ({ frames := 2, cells := 3, slots := 99, locals := 40 } : Room).cells ({ frames := 2, cells := 3, slots := 99, locals := 40 } : Room).slots) := by
  refine MetFree.of_bodySF (plainFor_of_name pn_3) hisR ?_
  intro p e s m args below meth c s₁ Bd hml0 hP hK
  obtain ⟨rfl, hZ, hh⟩ := hP
  have hx := Bd.exec
  have hby := Bd.bytes
  have hml : c.maxLocals = 8 := hml0
  have hown : s.vm.findClass "com/example/facetwork/facetwork/image/RgbaImage" = some m.cls := findClass_of_methodNamed Bd.named
  have hnm := (name_of_methodNamed Bd.named Bd.method).1
  have X0 : Stand p l e ({ frames := 2, cells := 3, slots := 99, locals := 40 } : Room) s m #[(.ref a1), (.int p1), (.int p2), (.int p3), (.int (1 : Int32))] below meth c s₁ [] 0 0 := Stand.of_body Bd
  have e0 : s₁.heap = h0 := by rw [← hh, Bd.state]; rfl
  have N0 := Fr.nil n0
  have pre0 : ∀ t, Steps p.tables e below (s₁.setTop (mkF m 0 #[.val (.ref a1), .val (.int p1), .val (.int p2), .val (.int p3), .val (.int (1 : Int32)), .unset, .unset, .unset] [])) t → Steps p.tables e below (s₁.setTop (entryFrame m #[(.ref a1), (.int p1), (.int p2), (.int p3), (.int (1 : Int32))] 8)) t := fun t k => castTop (ef_3h1 m a1 p1 p2 p3) k
  obtain ⟨hw1, hw2⟩ := own_ge hw0
  have hxw := own_bx hx0 hwx hx3 hw1
  have hyh := own_by hy0 hhy hy2 (by decide)
  have hyh' : p2.toNatClampNeg + 1 ≤ 3 := hyh
  have hw4 : p3.toNatClampNeg ≤ 4 := by omega
  obtain ⟨hn1, hn2⟩ := own_n1 hw1 hw4
  have hnn : ¬ ((p3 * (1 : Int32)) * (4 : Int32)) < 0 := own_nz hn1 (by omega)
  have hnc : ((p3 * (1 : Int32)) * (4 : Int32)).toNatClampNeg = 1 * (4 * p3.toNatClampNeg) := own_clamp hn1
  have hl4 := own_w4 hw1 hw4
  have hlc := own_clamp hl4
  have pre1 : ∀ t, Steps p.tables e below (s₁.setTop (mkF m 19 #[.val (.ref a1), .val (.int p1), .val (.int p2), .val (.int p3), .val (.int (1 : Int32)), .unset, .unset, .unset] [(.ref a1), (.int p3)])) t → Steps p.tables e below (s₁.setTop (entryFrame m #[(.ref a1), (.int p1), (.int p2), (.int p3), (.int (1 : Int32))] 8)) t := by
    intro t k
    refine pre0 t ?_
    refine XS.iloadN X0.here hx rfl (hb hby d3_0) rfl ?_
    show Steps p.tables e below (s₁.setTop (mkF m 1 #[.val (.ref a1), .val (.int p1), .val (.int p2), .val (.int p3), .val (.int (1 : Int32)), .unset, .unset, .unset] [(.int p1)])) _
    refine XS.ifNo X0.here hx rfl (hb hby d3_1) rfl (XT.i0_lt_f hx0) ?_
    show Steps p.tables e below (s₁.setTop (mkF m 4 #[.val (.ref a1), .val (.int p1), .val (.int p2), .val (.int p3), .val (.int (1 : Int32)), .unset, .unset, .unset] [])) _
    refine XS.iloadN X0.here hx rfl (hb hby d3_4) rfl ?_
    show Steps p.tables e below (s₁.setTop (mkF m 5 #[.val (.ref a1), .val (.int p1), .val (.int p2), .val (.int p3), .val (.int (1 : Int32)), .unset, .unset, .unset] [(.int p2)])) _
    refine XS.ifNo X0.here hx rfl (hb hby d3_5) rfl (XT.i0_lt_f hy0) ?_
    show Steps p.tables e below (s₁.setTop (mkF m 8 #[.val (.ref a1), .val (.int p1), .val (.int p2), .val (.int p3), .val (.int (1 : Int32)), .unset, .unset, .unset] [])) _
    refine XS.iloadN X0.here hx rfl (hb hby d3_8) rfl ?_
    show Steps p.tables e below (s₁.setTop (mkF m 9 #[.val (.ref a1), .val (.int p1), .val (.int p2), .val (.int p3), .val (.int (1 : Int32)), .unset, .unset, .unset] [(.int p3)])) _
    refine XS.ifNo X0.here hx rfl (hb hby d3_9) rfl (XT.i0_le_f hw0) ?_
    show Steps p.tables e below (s₁.setTop (mkF m 12 #[.val (.ref a1), .val (.int p1), .val (.int p2), .val (.int p3), .val (.int (1 : Int32)), .unset, .unset, .unset] [])) _
    refine XS.iload X0.here hx rfl (hb hby d3_12) rfl ?_
    show Steps p.tables e below (s₁.setTop (mkF m 14 #[.val (.ref a1), .val (.int p1), .val (.int p2), .val (.int p3), .val (.int (1 : Int32)), .unset, .unset, .unset] [(.int (1 : Int32))])) _
    refine XS.ifNo X0.here hx rfl (hb hby d3_14) rfl (XT.i0_le_f (by decide)) ?_
    show Steps p.tables e below (s₁.setTop (mkF m 17 #[.val (.ref a1), .val (.int p1), .val (.int p2), .val (.int p3), .val (.int (1 : Int32)), .unset, .unset, .unset] [])) _
    refine XS.iloadN X0.here hx rfl (hb hby d3_17) rfl ?_
    show Steps p.tables e below (s₁.setTop (mkF m 18 #[.val (.ref a1), .val (.int p1), .val (.int p2), .val (.int p3), .val (.int (1 : Int32)), .unset, .unset, .unset] [(.int p3)])) _
    refine XS.aloadN X0.here hx rfl (hb hby d3_18) rfl rfl ?_
    show Steps p.tables e below (s₁.setTop (mkF m 19 #[.val (.ref a1), .val (.int p1), .val (.int p2), .val (.int p3), .val (.int (1 : Int32)), .unset, .unset, .unset] [(.ref a1), (.int p3)])) _
    exact k
  obtain ⟨T2, X2, e2, st2⟩ := getF X0 hx hZ hown (host := "") (Or.inl (hw _ (List.mem_of_getElem? (i := 11) rfl))) Via.refl e0 F0 (g := (mkF m 19 #[.val (.ref a1), .val (.int p1), .val (.int p2), .val (.int p3), .val (.int (1 : Int32)), .unset, .unset, .unset] [(.ref a1), (.int p3)])) rfl rfl (hb hby d3_19)
  have pre3 : ∀ t, Steps p.tables e below (T2.setTop (mkF m 22 #[.val (.ref a1), .val (.int p1), .val (.int p2), .val (.int p3), .val (.int (1 : Int32)), .unset, .unset, .unset] [(.int (4 : Int32)), (.int p3)])) t → Steps p.tables e below (s₁.setTop (entryFrame m #[(.ref a1), (.int p1), (.int p2), (.int p3), (.int (1 : Int32))] 8)) t := fun t k => pre1 t (st2 t k)
  have pre4 : ∀ t, Steps p.tables e below (T2.setTop (mkF m 30 #[.val (.ref a1), .val (.int p1), .val (.int p2), .val (.int p3), .val (.int (1 : Int32)), .unset, .unset, .unset] [(.ref a1), (.int (1 : Int32))])) t → Steps p.tables e below (s₁.setTop (entryFrame m #[(.ref a1), (.int p1), (.int p2), (.int p3), (.int (1 : Int32))] 8)) t := by
    intro t k
    refine pre3 t ?_
    refine XS.iloadN X2.here hx rfl (hb hby d3_22) rfl ?_
    show Steps p.tables e below (T2.setTop (mkF m 23 #[.val (.ref a1), .val (.int p1), .val (.int p2), .val (.int p3), .val (.int (1 : Int32)), .unset, .unset, .unset] [(.int p1), (.int (4 : Int32)), (.int p3)])) _
    refine XS.isub X2.here hx rfl (hb hby d3_23) rfl ?_
    show Steps p.tables e below (T2.setTop (mkF m 24 #[.val (.ref a1), .val (.int p1), .val (.int p2), .val (.int p3), .val (.int (1 : Int32)), .unset, .unset, .unset] [(.int ((4 : Int32) - p1)), (.int p3)])) _
    refine XS.icmpNo X2.here hx rfl (hb hby d3_24) rfl (XT.ii_gt_f hwx) ?_
    show Steps p.tables e below (T2.setTop (mkF m 27 #[.val (.ref a1), .val (.int p1), .val (.int p2), .val (.int p3), .val (.int (1 : Int32)), .unset, .unset, .unset] [])) _
    refine XS.iload X2.here hx rfl (hb hby d3_27) rfl ?_
    show Steps p.tables e below (T2.setTop (mkF m 29 #[.val (.ref a1), .val (.int p1), .val (.int p2), .val (.int p3), .val (.int (1 : Int32)), .unset, .unset, .unset] [(.int (1 : Int32))])) _
    refine XS.aloadN X2.here hx rfl (hb hby d3_29) rfl rfl ?_
    show Steps p.tables e below (T2.setTop (mkF m 30 #[.val (.ref a1), .val (.int p1), .val (.int p2), .val (.int p3), .val (.int (1 : Int32)), .unset, .unset, .unset] [(.ref a1), (.int (1 : Int32))])) _
    exact k
  obtain ⟨T5, X5, e5, st5⟩ := getF X2 hx hZ hown (host := "") (Or.inl (hw _ (List.mem_of_getElem? (i := 13) rfl))) Via.refl e2 F1 (g := (mkF m 30 #[.val (.ref a1), .val (.int p1), .val (.int p2), .val (.int p3), .val (.int (1 : Int32)), .unset, .unset, .unset] [(.ref a1), (.int (1 : Int32))])) rfl rfl (hb hby d3_30)
  have pre6 : ∀ t, Steps p.tables e below (T5.setTop (mkF m 33 #[.val (.ref a1), .val (.int p1), .val (.int p2), .val (.int p3), .val (.int (1 : Int32)), .unset, .unset, .unset] [(.int (3 : Int32)), (.int (1 : Int32))])) t → Steps p.tables e below (s₁.setTop (entryFrame m #[(.ref a1), (.int p1), (.int p2), (.int p3), (.int (1 : Int32))] 8)) t := fun t k => pre4 t (st5 t k)
  have pre8 : ∀ t, Steps p.tables e below (T5.setTop (mkF m 70 #[.val (.ref a1), .val (.int p1), .val (.int p2), .val (.int p3), .val (.int (1 : Int32)), .unset, .unset, .unset] [(.int ((p3 * (1 : Int32)) * (4 : Int32)))])) t → Steps p.tables e below (s₁.setTop (entryFrame m #[(.ref a1), (.int p1), (.int p2), (.int p3), (.int (1 : Int32))] 8)) t := by
    intro t k
    refine pre6 t ?_
    refine XS.iloadN X5.here hx rfl (hb hby d3_33) rfl ?_
    show Steps p.tables e below (T5.setTop (mkF m 34 #[.val (.ref a1), .val (.int p1), .val (.int p2), .val (.int p3), .val (.int (1 : Int32)), .unset, .unset, .unset] [(.int p2), (.int (3 : Int32)), (.int (1 : Int32))])) _
    refine XS.isub X5.here hx rfl (hb hby d3_34) rfl ?_
    show Steps p.tables e below (T5.setTop (mkF m 35 #[.val (.ref a1), .val (.int p1), .val (.int p2), .val (.int p3), .val (.int (1 : Int32)), .unset, .unset, .unset] [(.int ((3 : Int32) - p2)), (.int (1 : Int32))])) _
    refine XS.icmpYes X5.here hx rfl (pc0 := 35) (pc' := 64) rfl (hb hby d3_35) rfl (XT.ii_le_t hhy) (by decide) (by decide) ?_
    show Steps p.tables e below (T5.setTop (mkF m 64 #[.val (.ref a1), .val (.int p1), .val (.int p2), .val (.int p3), .val (.int (1 : Int32)), .unset, .unset, .unset] [])) _
    refine XS.iloadN X5.here hx rfl (hb hby d3_64) rfl ?_
    show Steps p.tables e below (T5.setTop (mkF m 65 #[.val (.ref a1), .val (.int p1), .val (.int p2), .val (.int p3), .val (.int (1 : Int32)), .unset, .unset, .unset] [(.int p3)])) _
    refine XS.iload X5.here hx rfl (hb hby d3_65) rfl ?_
    show Steps p.tables e below (T5.setTop (mkF m 67 #[.val (.ref a1), .val (.int p1), .val (.int p2), .val (.int p3), .val (.int (1 : Int32)), .unset, .unset, .unset] [(.int (1 : Int32)), (.int p3)])) _
    refine XS.imul X5.here hx rfl (hb hby d3_67) rfl ?_
    show Steps p.tables e below (T5.setTop (mkF m 68 #[.val (.ref a1), .val (.int p1), .val (.int p2), .val (.int p3), .val (.int (1 : Int32)), .unset, .unset, .unset] [(.int (p3 * (1 : Int32)))])) _
    refine XS.iconst X5.here hx rfl (hb hby d3_68) ?_
    show Steps p.tables e below (T5.setTop (mkF m 69 #[.val (.ref a1), .val (.int p1), .val (.int p2), .val (.int p3), .val (.int (1 : Int32)), .unset, .unset, .unset] [(.int (4 : Int32)), (.int (p3 * (1 : Int32)))])) _
    refine XS.imul X5.here hx rfl (hb hby d3_69) rfl ?_
    show Steps p.tables e below (T5.setTop (mkF m 70 #[.val (.ref a1), .val (.int p1), .val (.int p2), .val (.int p3), .val (.int (1 : Int32)), .unset, .unset, .unset] [(.int ((p3 * (1 : Int32)) * (4 : Int32)))])) _
    exact k
  have K7 : Keep h0 h0 [] := (Keep.refl h0 [])
  obtain ⟨T9, h9, cA9, X9, e9, E9, A9, Ea9, st9⟩ := newPE X5 hx hZ (hw _ (List.mem_of_getElem? (i := 0) rfl)) e5 (g := (mkF m 70 #[.val (.ref a1), .val (.int p1), .val (.int p2), .val (.int p3), .val (.int (1 : Int32)), .unset, .unset, .unset] [(.int ((p3 * (1 : Int32)) * (4 : Int32)))])) rfl (hb hby d3_70) rfl hnn (cap := 48) (by rw [hnc]; omega) (by decide) (by decide) (by decide) (ad := "[B") rfl
  obtain ⟨oa, gz9⟩ : ∃ z, z = h0.size := ⟨_, rfl⟩
  rw [← gz9] at A9 Ea9 st9
  have g_oa : n0 ≤ oa := Nat.le_trans Z0 (Nat.le_of_eq gz9.symm)
  have s_oa : h0.size ≤ oa := Nat.le_trans K7.1 (Nat.le_of_eq gz9.symm)
  have ne_a1_oa : a1 ≠ oa := by rw [gz9]; exact Nat.ne_of_lt F0.lt
  have ne_pa_oa : pa ≠ oa := by rw [gz9]; exact Nat.ne_of_lt V0.lt
  have V9 : Arv Z h9 oa cA9 .byte ((p3 * (1 : Int32)) * (4 : Int32)) (List.replicate 48 (.int (0 : Int32))) (.int (0 : Int32)) := Arv.pad (Arv.new A9 hnn) (pad_rep [] (.int (0 : Int32)) 48)
  have pre10 : ∀ t, Steps p.tables e below (T9.setTop (mkF m 72 #[.val (.ref a1), .val (.int p1), .val (.int p2), .val (.int p3), .val (.int (1 : Int32)), .unset, .unset, .unset] [(.ref oa)])) t → Steps p.tables e below (s₁.setTop (entryFrame m #[(.ref a1), (.int p1), (.int p2), (.int p3), (.int (1 : Int32))] 8)) t := fun t k => pre8 t (st9 t k)
  have F11_0 : Fld Z h9 a1 "com/example/facetwork/facetwork/image/RgbaImage" "width" "I" (.int (4 : Int32)) := (F0.ext E9)
  have F11_1 : Fld Z h9 a1 "com/example/facetwork/facetwork/image/RgbaImage" "height" "I" (.int (3 : Int32)) := (F1.ext E9)
  have F11_2 : Fld Z h9 a1 "com/example/facetwork/facetwork/image/RgbaImage" "pixels" "[B" (.ref pa) := (F2.ext E9)
  have V11_0 : Arv Z h9 pa kk .byte (48 : Int32) vs (.int (0 : Int32)) := (V0.ext E9)
  have K11 : Keep h0 h9 [] := (K7.ext E9)
  have Z11 : n0 ≤ h9.size := (Nat.le_trans Z0 E9.1)
  have R0 := own_rows0 vs p1.toNatClampNeg p2.toNatClampNeg p3.toNatClampNeg
  have pre12 : ∀ t, Steps p.tables e below (T9.setTop (mkF m 90 #[.val (.ref a1), .val (.int p1), .val (.int p2), .val (.int p3), .val (.int (1 : Int32)), .val (.ref oa), .val (.int (p3 * (4 : Int32))), .val (.int (0 : Int32))] [(.ref a1)])) t → Steps p.tables e below (s₁.setTop (entryFrame m #[(.ref a1), (.int p1), (.int p2), (.int p3), (.int (1 : Int32))] 8)) t := by
    intro t k
    refine pre10 t ?_
    refine XS.astore X9.here hx rfl (hb hby d3_72) rfl rfl (l' := #[.val (.ref a1), .val (.int p1), .val (.int p2), .val (.int p3), .val (.int (1 : Int32)), .val (.ref oa), .unset, .unset]) rfl ?_
    show Steps p.tables e below (T9.setTop (mkF m 74 #[.val (.ref a1), .val (.int p1), .val (.int p2), .val (.int p3), .val (.int (1 : Int32)), .val (.ref oa), .unset, .unset] [])) _
    refine XS.iloadN X9.here hx rfl (hb hby d3_74) rfl ?_
    show Steps p.tables e below (T9.setTop (mkF m 75 #[.val (.ref a1), .val (.int p1), .val (.int p2), .val (.int p3), .val (.int (1 : Int32)), .val (.ref oa), .unset, .unset] [(.int p3)])) _
    refine XS.iconst X9.here hx rfl (hb hby d3_75) ?_
    show Steps p.tables e below (T9.setTop (mkF m 76 #[.val (.ref a1), .val (.int p1), .val (.int p2), .val (.int p3), .val (.int (1 : Int32)), .val (.ref oa), .unset, .unset] [(.int (4 : Int32)), (.int p3)])) _
    refine XS.imul X9.here hx rfl (hb hby d3_76) rfl ?_
    show Steps p.tables e below (T9.setTop (mkF m 77 #[.val (.ref a1), .val (.int p1), .val (.int p2), .val (.int p3), .val (.int (1 : Int32)), .val (.ref oa), .unset, .unset] [(.int (p3 * (4 : Int32)))])) _
    refine XS.istore X9.here hx rfl (hb hby d3_77) rfl (l' := #[.val (.ref a1), .val (.int p1), .val (.int p2), .val (.int p3), .val (.int (1 : Int32)), .val (.ref oa), .val (.int (p3 * (4 : Int32))), .unset]) rfl ?_
    show Steps p.tables e below (T9.setTop (mkF m 79 #[.val (.ref a1), .val (.int p1), .val (.int p2), .val (.int p3), .val (.int (1 : Int32)), .val (.ref oa), .val (.int (p3 * (4 : Int32))), .unset] [])) _
    refine XS.iconst X9.here hx rfl (hb hby d3_79) ?_
    show Steps p.tables e below (T9.setTop (mkF m 80 #[.val (.ref a1), .val (.int p1), .val (.int p2), .val (.int p3), .val (.int (1 : Int32)), .val (.ref oa), .val (.int (p3 * (4 : Int32))), .unset] [(.int (0 : Int32))])) _
    refine XS.istore X9.here hx rfl (hb hby d3_80) rfl (l' := #[.val (.ref a1), .val (.int p1), .val (.int p2), .val (.int p3), .val (.int (1 : Int32)), .val (.ref oa), .val (.int (p3 * (4 : Int32))), .val (.int (0 : Int32))]) rfl ?_
    show Steps p.tables e below (T9.setTop (mkF m 82 #[.val (.ref a1), .val (.int p1), .val (.int p2), .val (.int p3), .val (.int (1 : Int32)), .val (.ref oa), .val (.int (p3 * (4 : Int32))), .val (.int (0 : Int32))] [])) _
    refine XS.iload X9.here hx rfl (hb hby d3_82) rfl ?_
    show Steps p.tables e below (T9.setTop (mkF m 84 #[.val (.ref a1), .val (.int p1), .val (.int p2), .val (.int p3), .val (.int (1 : Int32)), .val (.ref oa), .val (.int (p3 * (4 : Int32))), .val (.int (0 : Int32))] [(.int (0 : Int32))])) _
    refine XS.iload X9.here hx rfl (hb hby d3_84) rfl ?_
    show Steps p.tables e below (T9.setTop (mkF m 86 #[.val (.ref a1), .val (.int p1), .val (.int p2), .val (.int p3), .val (.int (1 : Int32)), .val (.ref oa), .val (.int (p3 * (4 : Int32))), .val (.int (0 : Int32))] [(.int (1 : Int32)), (.int (0 : Int32))])) _
    refine XS.icmpNo X9.here hx rfl (hb hby d3_86) rfl (XT.ii_ge_f (by decide)) ?_
    show Steps p.tables e below (T9.setTop (mkF m 89 #[.val (.ref a1), .val (.int p1), .val (.int p2), .val (.int p3), .val (.int (1 : Int32)), .val (.ref oa), .val (.int (p3 * (4 : Int32))), .val (.int (0 : Int32))] [])) _
    refine XS.aloadN X9.here hx rfl (hb hby d3_89) rfl rfl ?_
    show Steps p.tables e below (T9.setTop (mkF m 90 #[.val (.ref a1), .val (.int p1), .val (.int p2), .val (.int p3), .val (.int (1 : Int32)), .val (.ref oa), .val (.int (p3 * (4 : Int32))), .val (.int (0 : Int32))] [(.ref a1)])) _
    exact k
  obtain ⟨T13, X13, e13, st13⟩ := getF X9 hx hZ hown (host := "") (Or.inl (hw _ (List.mem_of_getElem? (i := 24) rfl))) Via.refl e9 F11_2 (g := (mkF m 90 #[.val (.ref a1), .val (.int p1), .val (.int p2), .val (.int p3), .val (.int (1 : Int32)), .val (.ref oa), .val (.int (p3 * (4 : Int32))), .val (.int (0 : Int32))] [(.ref a1)])) rfl rfl (hb hby d3_90)
  have pre14 : ∀ t, Steps p.tables e below (T13.setTop (mkF m 93 #[.val (.ref a1), .val (.int p1), .val (.int p2), .val (.int p3), .val (.int (1 : Int32)), .val (.ref oa), .val (.int (p3 * (4 : Int32))), .val (.int (0 : Int32))] [(.ref pa)])) t → Steps p.tables e below (s₁.setTop (entryFrame m #[(.ref a1), (.int p1), (.int p2), (.int p3), (.int (1 : Int32))] 8)) t := fun t k => pre12 t (st13 t k)
  have pre15 : ∀ t, Steps p.tables e below (T13.setTop (mkF m 98 #[.val (.ref a1), .val (.int p1), .val (.int p2), .val (.int p3), .val (.int (1 : Int32)), .val (.ref oa), .val (.int (p3 * (4 : Int32))), .val (.int (0 : Int32))] [(.ref a1), (.int (p2 + (0 : Int32))), (.ref pa)])) t → Steps p.tables e below (s₁.setTop (entryFrame m #[(.ref a1), (.int p1), (.int p2), (.int p3), (.int (1 : Int32))] 8)) t := by
    intro t k
    refine pre14 t ?_
    refine XS.iloadN X13.here hx rfl (hb hby d3_93) rfl ?_
    show Steps p.tables e below (T13.setTop (mkF m 94 #[.val (.ref a1), .val (.int p1), .val (.int p2), .val (.int p3), .val (.int (1 : Int32)), .val (.ref oa), .val (.int (p3 * (4 : Int32))), .val (.int (0 : Int32))] [(.int p2), (.ref pa)])) _
    refine XS.iload X13.here hx rfl (hb hby d3_94) rfl ?_
    show Steps p.tables e below (T13.setTop (mkF m 96 #[.val (.ref a1), .val (.int p1), .val (.int p2), .val (.int p3), .val (.int (1 : Int32)), .val (.ref oa), .val (.int (p3 * (4 : Int32))), .val (.int (0 : Int32))] [(.int (0 : Int32)), (.int p2), (.ref pa)])) _
    refine XS.iadd X13.here hx rfl (hb hby d3_96) rfl ?_
    show Steps p.tables e below (T13.setTop (mkF m 97 #[.val (.ref a1), .val (.int p1), .val (.int p2), .val (.int p3), .val (.int (1 : Int32)), .val (.ref oa), .val (.int (p3 * (4 : Int32))), .val (.int (0 : Int32))] [(.int (p2 + (0 : Int32))), (.ref pa)])) _
    refine XS.aloadN X13.here hx rfl (hb hby d3_97) rfl rfl ?_
    show Steps p.tables e below (T13.setTop (mkF m 98 #[.val (.ref a1), .val (.int p1), .val (.int p2), .val (.int p3), .val (.int (1 : Int32)), .val (.ref oa), .val (.int (p3 * (4 : Int32))), .val (.int (0 : Int32))] [(.ref a1), (.int (p2 + (0 : Int32))), (.ref pa)])) _
    exact k
  obtain ⟨T16, X16, e16, st16⟩ := getF X13 hx hZ hown (host := "") (Or.inl (hw _ (List.mem_of_getElem? (i := 11) rfl))) Via.refl e13 F11_0 (g := (mkF m 98 #[.val (.ref a1), .val (.int p1), .val (.int p2), .val (.int p3), .val (.int (1 : Int32)), .val (.ref oa), .val (.int (p3 * (4 : Int32))), .val (.int (0 : Int32))] [(.ref a1), (.int (p2 + (0 : Int32))), (.ref pa)])) rfl rfl (hb hby d3_98)
  have pre17 : ∀ t, Steps p.tables e below (T16.setTop (mkF m 101 #[.val (.ref a1), .val (.int p1), .val (.int p2), .val (.int p3), .val (.int (1 : Int32)), .val (.ref oa), .val (.int (p3 * (4 : Int32))), .val (.int (0 : Int32))] [(.int (4 : Int32)), (.int (p2 + (0 : Int32))), (.ref pa)])) t → Steps p.tables e below (s₁.setTop (entryFrame m #[(.ref a1), (.int p1), (.int p2), (.int p3), (.int (1 : Int32))] 8)) t := fun t k => pre15 t (st16 t k)
  have s0 := own_sp0 hx0 hx3 hy0 hy2
  have d0 := own_dp0 hw1 hw4
  have sc0 := own_clamp s0
  have dc0 := own_clamp d0
  have pre19 : ∀ t, Steps p.tables e below (T16.setTop (mkF m 115 #[.val (.ref a1), .val (.int p1), .val (.int p2), .val (.int p3), .val (.int (1 : Int32)), .val (.ref oa), .val (.int (p3 * (4 : Int32))), .val (.int (0 : Int32))] [(.int (p3 * (4 : Int32))), (.int ((0 : Int32) * (p3 * (4 : Int32)))), (.ref oa), (.int ((((p2 + (0 : Int32)) * (4 : Int32)) + p1) * (4 : Int32))), (.ref pa)])) t → Steps p.tables e below (s₁.setTop (entryFrame m #[(.ref a1), (.int p1), (.int p2), (.int p3), (.int (1 : Int32))] 8)) t := by
    intro t k
    refine pre17 t ?_
    refine XS.imul X16.here hx rfl (hb hby d3_101) rfl ?_
    show Steps p.tables e below (T16.setTop (mkF m 102 #[.val (.ref a1), .val (.int p1), .val (.int p2), .val (.int p3), .val (.int (1 : Int32)), .val (.ref oa), .val (.int (p3 * (4 : Int32))), .val (.int (0 : Int32))] [(.int ((p2 + (0 : Int32)) * (4 : Int32))), (.ref pa)])) _
    refine XS.iloadN X16.here hx rfl (hb hby d3_102) rfl ?_
    show Steps p.tables e below (T16.setTop (mkF m 103 #[.val (.ref a1), .val (.int p1), .val (.int p2), .val (.int p3), .val (.int (1 : Int32)), .val (.ref oa), .val (.int (p3 * (4 : Int32))), .val (.int (0 : Int32))] [(.int p1), (.int ((p2 + (0 : Int32)) * (4 : Int32))), (.ref pa)])) _
    refine XS.iadd X16.here hx rfl (hb hby d3_103) rfl ?_
    show Steps p.tables e below (T16.setTop (mkF m 104 #[.val (.ref a1), .val (.int p1), .val (.int p2), .val (.int p3), .val (.int (1 : Int32)), .val (.ref oa), .val (.int (p3 * (4 : Int32))), .val (.int (0 : Int32))] [(.int (((p2 + (0 : Int32)) * (4 : Int32)) + p1)), (.ref pa)])) _
    refine XS.iconst X16.here hx rfl (hb hby d3_104) ?_
    show Steps p.tables e below (T16.setTop (mkF m 105 #[.val (.ref a1), .val (.int p1), .val (.int p2), .val (.int p3), .val (.int (1 : Int32)), .val (.ref oa), .val (.int (p3 * (4 : Int32))), .val (.int (0 : Int32))] [(.int (4 : Int32)), (.int (((p2 + (0 : Int32)) * (4 : Int32)) + p1)), (.ref pa)])) _
    refine XS.imul X16.here hx rfl (hb hby d3_105) rfl ?_
    show Steps p.tables e below (T16.setTop (mkF m 106 #[.val (.ref a1), .val (.int p1), .val (.int p2), .val (.int p3), .val (.int (1 : Int32)), .val (.ref oa), .val (.int (p3 * (4 : Int32))), .val (.int (0 : Int32))] [(.int ((((p2 + (0 : Int32)) * (4 : Int32)) + p1) * (4 : Int32))), (.ref pa)])) _
    refine XS.aload X16.here hx rfl (hb hby d3_106) rfl rfl ?_
    show Steps p.tables e below (T16.setTop (mkF m 108 #[.val (.ref a1), .val (.int p1), .val (.int p2), .val (.int p3), .val (.int (1 : Int32)), .val (.ref oa), .val (.int (p3 * (4 : Int32))), .val (.int (0 : Int32))] [(.ref oa), (.int ((((p2 + (0 : Int32)) * (4 : Int32)) + p1) * (4 : Int32))), (.ref pa)])) _
    refine XS.iload X16.here hx rfl (hb hby d3_108) rfl ?_
    show Steps p.tables e below (T16.setTop (mkF m 110 #[.val (.ref a1), .val (.int p1), .val (.int p2), .val (.int p3), .val (.int (1 : Int32)), .val (.ref oa), .val (.int (p3 * (4 : Int32))), .val (.int (0 : Int32))] [(.int (0 : Int32)), (.ref oa), (.int ((((p2 + (0 : Int32)) * (4 : Int32)) + p1) * (4 : Int32))), (.ref pa)])) _
    refine XS.iload X16.here hx rfl (hb hby d3_110) rfl ?_
    show Steps p.tables e below (T16.setTop (mkF m 112 #[.val (.ref a1), .val (.int p1), .val (.int p2), .val (.int p3), .val (.int (1 : Int32)), .val (.ref oa), .val (.int (p3 * (4 : Int32))), .val (.int (0 : Int32))] [(.int (p3 * (4 : Int32))), (.int (0 : Int32)), (.ref oa), (.int ((((p2 + (0 : Int32)) * (4 : Int32)) + p1) * (4 : Int32))), (.ref pa)])) _
    refine XS.imul X16.here hx rfl (hb hby d3_112) rfl ?_
    show Steps p.tables e below (T16.setTop (mkF m 113 #[.val (.ref a1), .val (.int p1), .val (.int p2), .val (.int p3), .val (.int (1 : Int32)), .val (.ref oa), .val (.int (p3 * (4 : Int32))), .val (.int (0 : Int32))] [(.int ((0 : Int32) * (p3 * (4 : Int32)))), (.ref oa), (.int ((((p2 + (0 : Int32)) * (4 : Int32)) + p1) * (4 : Int32))), (.ref pa)])) _
    refine XS.iload X16.here hx rfl (hb hby d3_113) rfl ?_
    show Steps p.tables e below (T16.setTop (mkF m 115 #[.val (.ref a1), .val (.int p1), .val (.int p2), .val (.int p3), .val (.int (1 : Int32)), .val (.ref oa), .val (.int (p3 * (4 : Int32))), .val (.int (0 : Int32))] [(.int (p3 * (4 : Int32))), (.int ((0 : Int32) * (p3 * (4 : Int32)))), (.ref oa), (.int ((((p2 + (0 : Int32)) * (4 : Int32)) + p1) * (4 : Int32))), (.ref pa)])) _
    exact k
  obtain ⟨T20, h20, L20, X20, e20, N20, Kc20, Vc20, st20⟩ := cpA X16 hx hZ hown (hw _ (List.mem_of_getElem? (i := 34) rfl)) (hw _ (List.mem_of_getElem? (i := 37) rfl)) (hw _ (List.mem_of_getElem? (i := 35) rfl)) (hw _ (List.mem_of_getElem? (i := 36) rfl)) e16 V11_0 V9 (Or.inl ⟨rfl, rfl⟩) (own_nz s0 (by omega)) (own_nz d0 (by omega)) (own_nz hl4 (by omega)) (by rw [sc0, hlc]; show _ ≤ 48; omega) (by rw [dc0, hlc, hnc]; omega) rfl (by rw [dc0, hlc, R0.1]; omega) N0 g_oa (g := (mkF m 115 #[.val (.ref a1), .val (.int p1), .val (.int p2), .val (.int p3), .val (.int (1 : Int32)), .val (.ref oa), .val (.int (p3 * (4 : Int32))), .val (.int (0 : Int32))] [(.int (p3 * (4 : Int32))), (.int ((0 : Int32) * (p3 * (4 : Int32)))), (.ref oa), (.int ((((p2 + (0 : Int32)) * (4 : Int32)) + p1) * (4 : Int32))), (.ref pa)])) rfl (by rw [hml]; rfl) (rest := []) rfl (hb hby d3_115) (by decide) (W := 0) (by show 2 * 0 + _ ≤ _; exact Nat.le_of_eq rfl) (by decide)
  have pre21 : ∀ t, Steps p.tables e below (T20.setTop (mkF m 118 #[.val (.ref a1), .val (.int p1), .val (.int p2), .val (.int p3), .val (.int (1 : Int32)), .val (.ref oa), .val (.int (p3 * (4 : Int32))), .val (.int (0 : Int32))] [])) t → Steps p.tables e below (s₁.setTop (entryFrame m #[(.ref a1), (.int p1), (.int p2), (.int p3), (.int (1 : Int32))] 8)) t := fun t k => pre19 t (st20 t k)
  have F22_0 : Fld Z h20 a1 "com/example/facetwork/facetwork/image/RgbaImage" "width" "I" (.int (4 : Int32)) := (F11_0.keep Kc20 (ninS ne_a1_oa nin0))
  have F22_1 : Fld Z h20 a1 "com/example/facetwork/facetwork/image/RgbaImage" "height" "I" (.int (3 : Int32)) := (F11_1.keep Kc20 (ninS ne_a1_oa nin0))
  have F22_2 : Fld Z h20 a1 "com/example/facetwork/facetwork/image/RgbaImage" "pixels" "[B" (.ref pa) := (F11_2.keep Kc20 (ninS ne_a1_oa nin0))
  have E22_0 : Exa Z h20 oa "[B" := (Ea9.keep Kc20)
  have V22_0 : Arv Z h20 pa kk .byte (48 : Int32) vs (.int (0 : Int32)) := (V11_0.keep Kc20 (ninS ne_pa_oa nin0))
  have K22 : Keep h0 h20 [] := (K11.trans Kc20 (allS (P := fun x => x ∈ [] ∨ h0.size ≤ x) (Or.inr s_oa) all0))
  have Z22 : n0 ≤ h20.size := (Nat.le_trans Z11 Kc20.1)
  have R1 := own_step R0 sc0 dc0 hlc (by rw [dc0, hlc]; omega)
  obtain ⟨u1, hu1⟩ : ∃ u, u = ((List.replicate 48 (.int (0 : Int32))).take ((0 : Int32) * (p3 * (4 : Int32))).toNatClampNeg ++ (List.range (p3 * (4 : Int32)).toNatClampNeg).map (fun i => vs.getD (((((p2 + (0 : Int32)) * (4 : Int32)) + p1) * (4 : Int32)).toNatClampNeg + i) (.int (0 : Int32))) ++ (List.replicate 48 (.int (0 : Int32))).drop (((0 : Int32) * (p3 * (4 : Int32))).toNatClampNeg + (p3 * (4 : Int32)).toNatClampNeg)) := ⟨_, rfl⟩
  have Vu1 : Arv Z h20 oa cA9 .byte ((p3 * (1 : Int32)) * (4 : Int32)) u1 (.int (0 : Int32)) := by rw [hu1]; exact Vc20
  rw [← hu1] at R1
  have pre24 : ∀ t, Steps p.tables e below (T20.setTop (mkF m 124 #[.val (.ref a1), .val (.int p1), .val (.int p2), .val (.int p3), .val (.int (1 : Int32)), .val (.ref oa), .val (.int (p3 * (4 : Int32))), .val (.int ((0 : Int32) + (1 : Int32)))] [])) t → Steps p.tables e below (s₁.setTop (entryFrame m #[(.ref a1), (.int p1), (.int p2), (.int p3), (.int (1 : Int32))] 8)) t := by
    intro t k
    refine pre21 t ?_
    refine XS.iinc X20.here hx rfl (hb hby d3_118) rfl (l' := #[.val (.ref a1), .val (.int p1), .val (.int p2), .val (.int p3), .val (.int (1 : Int32)), .val (.ref oa), .val (.int (p3 * (4 : Int32))), .val (.int ((0 : Int32) + (1 : Int32)))]) rfl ?_
    show Steps p.tables e below (T20.setTop (mkF m 121 #[.val (.ref a1), .val (.int p1), .val (.int p2), .val (.int p3), .val (.int (1 : Int32)), .val (.ref oa), .val (.int (p3 * (4 : Int32))), .val (.int ((0 : Int32) + (1 : Int32)))] [])) _
    refine XS.goto X20.here hx rfl (pc0 := 121) (pc' := 82) rfl (hb hby d3_121) (by decide) (by decide) ?_
    show Steps p.tables e below (T20.setTop (mkF m 82 #[.val (.ref a1), .val (.int p1), .val (.int p2), .val (.int p3), .val (.int (1 : Int32)), .val (.ref oa), .val (.int (p3 * (4 : Int32))), .val (.int ((0 : Int32) + (1 : Int32)))] [])) _
    refine XS.iload X20.here hx rfl (hb hby d3_82) rfl ?_
    show Steps p.tables e below (T20.setTop (mkF m 84 #[.val (.ref a1), .val (.int p1), .val (.int p2), .val (.int p3), .val (.int (1 : Int32)), .val (.ref oa), .val (.int (p3 * (4 : Int32))), .val (.int ((0 : Int32) + (1 : Int32)))] [(.int ((0 : Int32) + (1 : Int32)))])) _
    refine XS.iload X20.here hx rfl (hb hby d3_84) rfl ?_
    show Steps p.tables e below (T20.setTop (mkF m 86 #[.val (.ref a1), .val (.int p1), .val (.int p2), .val (.int p3), .val (.int (1 : Int32)), .val (.ref oa), .val (.int (p3 * (4 : Int32))), .val (.int ((0 : Int32) + (1 : Int32)))] [(.int (1 : Int32)), (.int ((0 : Int32) + (1 : Int32)))])) _
    refine XS.icmpYes X20.here hx rfl (pc0 := 86) (pc' := 124) rfl (hb hby d3_86) rfl (XT.ii_ge_t (by decide)) (by decide) (by decide) ?_
    show Steps p.tables e below (T20.setTop (mkF m 124 #[.val (.ref a1), .val (.int p1), .val (.int p2), .val (.int p3), .val (.int (1 : Int32)), .val (.ref oa), .val (.int (p3 * (4 : Int32))), .val (.int ((0 : Int32) + (1 : Int32)))] [])) _
    exact k
  obtain ⟨T25, h25, X25, e25, E25, A25, D25, -, st25⟩ := newO X20 hx hZ hown (hw _ (List.mem_of_getElem? (i := 38) rfl)) (hw _ (List.mem_of_getElem? (i := 2) rfl)) (hw _ (List.mem_of_getElem? (i := 3) rfl)) e20 (g := (mkF m 124 #[.val (.ref a1), .val (.int p1), .val (.int p2), .val (.int p3), .val (.int (1 : Int32)), .val (.ref oa), .val (.int (p3 * (4 : Int32))), .val (.int ((0 : Int32) + (1 : Int32)))] [])) rfl (hb hby d3_124) (by decide) (by decide)
  obtain ⟨im, gz25⟩ : ∃ z, z = h20.size := ⟨_, rfl⟩
  rw [← gz25] at A25 D25 st25
  have g_im : n0 ≤ im := Nat.le_trans Z22 (Nat.le_of_eq gz25.symm)
  have s_im : h0.size ≤ im := Nat.le_trans K22.1 (Nat.le_of_eq gz25.symm)
  have ne_a1_im : a1 ≠ im := by rw [gz25]; exact Nat.ne_of_lt F22_0.lt
  have ne_oa_im : oa ≠ im := by rw [gz25]; exact Nat.ne_of_lt E22_0.lt
  have ne_pa_im : pa ≠ im := by rw [gz25]; exact Nat.ne_of_lt V22_0.lt
  have F_width_im : Fld Z h25 im "com/example/facetwork/facetwork/image/RgbaImage" "width" "I" (.int (0 : Int32)) := D25 (Or.inr (hw _ (List.mem_of_getElem? (i := 12) rfl))) (ty := .int) (by decide)
  have F_height_im : Fld Z h25 im "com/example/facetwork/facetwork/image/RgbaImage" "height" "I" (.int (0 : Int32)) := D25 (Or.inr (hw _ (List.mem_of_getElem? (i := 14) rfl))) (ty := .int) (by decide)
  have F_pixels_im : Fld Z h25 im "com/example/facetwork/facetwork/image/RgbaImage" "pixels" "[B" .null := D25 (Or.inr (hw _ (List.mem_of_getElem? (i := 25) rfl))) (ty := (.array .byte)) (by decide)
  have pre26 : ∀ t, Steps p.tables e below (T25.setTop (mkF m 127 #[.val (.ref a1), .val (.int p1), .val (.int p2), .val (.int p3), .val (.int (1 : Int32)), .val (.ref oa), .val (.int (p3 * (4 : Int32))), .val (.int ((0 : Int32) + (1 : Int32)))] [(.ref im)])) t → Steps p.tables e below (s₁.setTop (entryFrame m #[(.ref a1), (.int p1), (.int p2), (.int p3), (.int (1 : Int32))] 8)) t := fun t k => pre24 t (st25 t k)
  have F27_0 : Fld Z h25 a1 "com/example/facetwork/facetwork/image/RgbaImage" "width" "I" (.int (4 : Int32)) := (F22_0.ext E25)
  have F27_1 : Fld Z h25 a1 "com/example/facetwork/facetwork/image/RgbaImage" "height" "I" (.int (3 : Int32)) := (F22_1.ext E25)
  have F27_2 : Fld Z h25 a1 "com/example/facetwork/facetwork/image/RgbaImage" "pixels" "[B" (.ref pa) := (F22_2.ext E25)
  have E27_0 : Exa Z h25 oa "[B" := (E22_0.ext E25)
  have V27_0 : Arv Z h25 pa kk .byte (48 : Int32) vs (.int (0 : Int32)) := (V22_0.ext E25)
  have V27_1 : Arv Z h25 oa cA9 .byte ((p3 * (1 : Int32)) * (4 : Int32)) u1 (.int (0 : Int32)) := (Vu1.ext E25)
  have K27 : Keep h0 h25 [] := (K22.ext E25)
  have Z27 : n0 ≤ h25.size := (Nat.le_trans Z22 E25.1)
  have pre29 : ∀ t, Steps p.tables e below (T25.setTop (mkF m 133 #[.val (.ref a1), .val (.int p1), .val (.int p2), .val (.int p3), .val (.int (1 : Int32)), .val (.ref oa), .val (.int (p3 * (4 : Int32))), .val (.int ((0 : Int32) + (1 : Int32)))] [(.ref oa), (.int (1 : Int32)), (.int p3), (.ref im), (.ref im)])) t → Steps p.tables e below (s₁.setTop (entryFrame m #[(.ref a1), (.int p1), (.int p2), (.int p3), (.int (1 : Int32))] 8)) t := by
    intro t k
    refine pre26 t ?_
    refine XS.dup X25.here hx rfl (hb hby d3_127) rfl rfl ?_
    show Steps p.tables e below (T25.setTop (mkF m 128 #[.val (.ref a1), .val (.int p1), .val (.int p2), .val (.int p3), .val (.int (1 : Int32)), .val (.ref oa), .val (.int (p3 * (4 : Int32))), .val (.int ((0 : Int32) + (1 : Int32)))] [(.ref im), (.ref im)])) _
    refine XS.iloadN X25.here hx rfl (hb hby d3_128) rfl ?_
    show Steps p.tables e below (T25.setTop (mkF m 129 #[.val (.ref a1), .val (.int p1), .val (.int p2), .val (.int p3), .val (.int (1 : Int32)), .val (.ref oa), .val (.int (p3 * (4 : Int32))), .val (.int ((0 : Int32) + (1 : Int32)))] [(.int p3), (.ref im), (.ref im)])) _
    refine XS.iload X25.here hx rfl (hb hby d3_129) rfl ?_
    show Steps p.tables e below (T25.setTop (mkF m 131 #[.val (.ref a1), .val (.int p1), .val (.int p2), .val (.int p3), .val (.int (1 : Int32)), .val (.ref oa), .val (.int (p3 * (4 : Int32))), .val (.int ((0 : Int32) + (1 : Int32)))] [(.int (1 : Int32)), (.int p3), (.ref im), (.ref im)])) _
    refine XS.aload X25.here hx rfl (hb hby d3_131) rfl rfl ?_
    show Steps p.tables e below (T25.setTop (mkF m 133 #[.val (.ref a1), .val (.int p1), .val (.int p2), .val (.int p3), .val (.int (1 : Int32)), .val (.ref oa), .val (.int (p3 * (4 : Int32))), .val (.int ((0 : Int32) + (1 : Int32)))] [(.ref oa), (.int (1 : Int32)), (.int p3), (.ref im), (.ref im)])) _
    exact k
  obtain ⟨_, _, ⟨T31, L31, k31, n31⟩, -, X31, ⟨Lc31, hQ31, l31, y31, z31⟩, st31⟩ := X25.specialBack hx (y := (⟨"com/example/facetwork/facetwork/image/RgbaImage", "<init>", "(II[B)V"⟩ : MethodName)) rfl hown (mvT hZ (hw _ (List.mem_of_getElem? (i := 39) rfl))) (mvT hZ (hw _ (List.mem_of_getElem? (i := 5) rfl))) (mvT hZ (hw _ (List.mem_of_getElem? (i := 6) rfl))) (by decide) (backOf (W := 1) (rm1 l Z a0 hw [] im p3 (1 : Int32) oa cA9 ((p3 * (1 : Int32)) * (4 : Int32)) u1 h25 n0 Z27 A25 g_im F_width_im F_height_im F_pixels_im E27_0 V27_1 ne_oa_im.symm hw0 (by decide) hn2 (by rw [hnc]; omega)) hZ (hw _ (List.mem_of_getElem? (i := 6) rfl)) (hw _ (List.mem_of_getElem? (i := 3) rfl)) (by decide) (by decide)) (g := (mkF m 133 #[.val (.ref a1), .val (.int p1), .val (.int p2), .val (.int p3), .val (.int (1 : Int32)), .val (.ref oa), .val (.int (p3 * (4 : Int32))), .val (.int ((0 : Int32) + (1 : Int32)))] [(.ref oa), (.int (1 : Int32)), (.int p3), (.ref im), (.ref im)])) rfl (by rw [hml]; rfl) (Steps.refl _) (a := im) (argsL := [(.int p3), (.int (1 : Int32)), (.ref oa)]) (rest := [(.ref im)]) (lenOf pd_img rfl) rfl (by show 2 * 0 + _ ≤ _; exact Nat.le_of_eq rfl) (hb hby d3_133) (fun _ _ => ⟨rfl, e25, (by decide : 2 + 1 ≤ _), (by decide : 51 + 48 ≤ _)⟩)
  dsimp only [Pt.U, Pt.locs, Pt.cells, Pt.slots] at X31 l31 y31 z31 st31 hQ31
  subst l31 y31 z31
  obtain ⟨pb, rfl, Nq31, Kq31, gq31, Fa31, Fb31, Fc31, Eq31, Vq31⟩ := hQ31
  have N31 := Fr.app N20 Nq31
  have pre32 : ∀ t, Steps p.tables e below (T31.setTop (mkF m 136 #[.val (.ref a1), .val (.int p1), .val (.int p2), .val (.int p3), .val (.int (1 : Int32)), .val (.ref oa), .val (.int (p3 * (4 : Int32))), .val (.int ((0 : Int32) + (1 : Int32)))] [(.ref im)])) t → Steps p.tables e below (s₁.setTop (entryFrame m #[(.ref a1), (.int p1), (.int p2), (.int p3), (.int (1 : Int32))] 8)) t := fun t k => pre29 t (st31.trans k)
  obtain ⟨Lo33, Xo33, No33⟩ : ∃ L, Stand p l e ({ frames := 2, cells := 3, slots := 99, locals := 40 } : Room) s m #[(.ref a1), (.int p1), (.int p2), (.int p3), (.int (1 : Int32))] below meth c T31 L 3 99 ∧ Fr n0 L := ⟨_, X31, N31⟩
  obtain ⟨h31, e31⟩ : ∃ z, T31.heap = z := ⟨_, rfl⟩
  have g_pb : n0 ≤ pb := Nat.le_trans Z27 gq31
  have s_pb : h0.size ≤ pb := Nat.le_trans K27.1 gq31
  have ne_a1_pb : a1 ≠ pb := Nat.ne_of_lt (Nat.lt_of_lt_of_le F27_0.lt gq31)
  have ne_im_pb : im ≠ pb := Nat.ne_of_lt (Nat.lt_of_lt_of_le F_width_im.lt gq31)
  have ne_oa_pb : oa ≠ pb := Nat.ne_of_lt (Nat.lt_of_lt_of_le E27_0.lt gq31)
  have ne_pa_pb : pa ≠ pb := Nat.ne_of_lt (Nat.lt_of_lt_of_le V27_0.lt gq31)
  rw [e31] at Kq31 Fa31 Fb31 Fc31 Eq31 Vq31
  have F34_0 : Fld Z h31 a1 "com/example/facetwork/facetwork/image/RgbaImage" "width" "I" (.int (4 : Int32)) := (F27_0.keep Kq31 (ninS ne_a1_im nin0))
  have F34_1 : Fld Z h31 a1 "com/example/facetwork/facetwork/image/RgbaImage" "height" "I" (.int (3 : Int32)) := (F27_1.keep Kq31 (ninS ne_a1_im nin0))
  have F34_2 : Fld Z h31 a1 "com/example/facetwork/facetwork/image/RgbaImage" "pixels" "[B" (.ref pa) := (F27_2.keep Kq31 (ninS ne_a1_im nin0))
  have E34_0 : Exa Z h31 oa "[B" := (E27_0.keep Kq31)
  have E34_1 : Exa Z h31 im "com/example/facetwork/facetwork/image/RgbaImage" := (A25.keep Kq31)
  have V34_0 : Arv Z h31 pa kk .byte (48 : Int32) vs (.int (0 : Int32)) := (V27_0.keep Kq31 (ninS ne_pa_im nin0))
  have V34_1 : Arv Z h31 oa cA9 .byte ((p3 * (1 : Int32)) * (4 : Int32)) u1 (.int (0 : Int32)) := (V27_1.keep Kq31 (ninS ne_oa_im nin0))
  have K34 : Keep h0 h31 [] := (K27.trans Kq31 (allS (P := fun x => x ∈ [] ∨ h0.size ≤ x) (Or.inr s_im) all0))
  have Z34 : n0 ≤ h31.size := (Nat.le_trans Z27 Kq31.1)
  obtain ⟨fs, hr, hrun, hended, hW, hsame⟩ := Xo33.leave (v := some (.ref im)) (fun h => by rw [Bd.returns] at h; cases h)
  refine ⟨_, _, pre32 _ ?_, hrun, hended, _, _, rfl, ?_, ⟨_, rfl⟩, hW, hsame.mono (by decide) (by decide)⟩
  · exact retOut Xo33 hx Bd.returns rfl (Or.inr (Or.inr (Or.inr (Or.inr ⟨rfl, rfl, rfl⟩)))) (hb hby d3_136) hr
  · show Q3h1 Z a1 p1 p2 p3 pa kk vs h0 n0 _ T31.heap _
    rw [e31]
    exact ⟨im, pb, cA9, u1, rfl, No33, K34, E34_1, Fa31, Fb31, Fc31, Eq31, Vq31, R1⟩
theorem ef_3h2 (m : MethodId) (a1 : Addr) (p1 : Int32) (p2 : Int32) (p3 : Int32) : entryFrame m #[(.ref a1), (.int p1), (.int p2), (.int p3), (.int (2 : Int32))] 8 = mkF m 0 #[.val (.ref a1), .val (.int p1), .val (.int p2), .val (.int p3), .val (.int (2 : Int32)), .unset, .unset, .unset] [] := by first | (simp [entryFrame, mkF, argsToLocals, Value.category]; done) | rfl
def Q3h2 (Z : State) (a1 : Addr) (p1 : Int32) (p2 : Int32) (p3 : Int32) (pa : Addr) (kk : ClassId) (vs : List Value) (h0 : Heap) (n0 : Nat) (v : Option Value) (h : Heap) (L : List Loc) : Prop := ∃ (im : Addr) (pb : Addr) (kb : ClassId) (ud : List Value), v = some (.ref im) ∧ Fr n0 L ∧ Keep h0 h [] ∧ Exa Z h im "com/example/facetwork/facetwork/image/RgbaImage" ∧ Fld Z h im "com/example/facetwork/facetwork/image/RgbaImage" "width" "I" (.int p3) ∧ Fld Z h im "com/example/facetwork/facetwork/image/RgbaImage" "height" "I" (.int (2 : Int32)) ∧ Fld Z h im "com/example/facetwork/facetwork/image/RgbaImage" "pixels" "[B" (.ref pb) ∧ Exa Z h pb "[B" ∧ Arv Z h pb kb .byte ((p3 * (2 : Int32)) * (4 : Int32)) ud (.int (0 : Int32)) ∧ own_rows vs ud p1.toNatClampNeg p2.toNatClampNeg p3.toNatClampNeg 2
set_option maxRecDepth 65536 in
set_option maxHeartbeats 40000000 in
theorem rm3h2 (l : Launch) (Z : State) (a0 : Array Value) (hw : ∀ d ∈ tables_1, d.before a0 Z = true) (ws : List Jvm.Cond) (a1 : Addr) (p1 : Int32) (p2 : Int32) (p3 : Int32) (pa : Addr) (kk : ClassId) (vs : List Value) (h0 : Heap) (n0 : Nat) (Z0 : n0 ≤ h0.size) (F0 : Fld Z h0 a1 "com/example/facetwork/facetwork/image/RgbaImage" "width" "I" (.int (4 : Int32))) (F1 : Fld Z h0 a1 "com/example/facetwork/facetwork/image/RgbaImage" "height" "I" (.int (3 : Int32))) (F2 : Fld Z h0 a1 "com/example/facetwork/facetwork/image/RgbaImage" "pixels" "[B" (.ref pa)) (V0 : Arv Z h0 pa kk .byte (48 : Int32) vs (.int (0 : Int32))) (hx0 : ¬ p1 < 0) (hx3 : p1.toNatClampNeg ≤ 3) (hy0 : ¬ p2 < 0) (hy2 : p2.toNatClampNeg ≤ 2) (hw0 : 0 < p3) (hwx : ¬ ((4 : Int32) - p1) < p3) (hhy : ¬ ((3 : Int32) - p2) < (2 : Int32)) :
    MetFree l (⟨"com/example/facetwork/facetwork/image/RgbaImage", "crop", "(IIII)Lcom/example/facetwork/facetwork/image/RgbaImage;"⟩ : MethodName) (head1 (Jvm.Cond.code (⟨"com/example/facetwork/facetwork/image/RgbaImage", "crop", "(IIII)Lcom/example/facetwork/facetwork/image/RgbaImage;"⟩ : MethodName) prog_4_method_5_code 8 (some (.object "com/example/facetwork/facetwork/image/RgbaImage")) :: ws) ({ frames := 2, cells := 3, slots := 99, locals := 40 } : Room)) (fun a U => a = #[(.ref a1), (.int p1), (.int p2), (.int p3), (.int (2 : Int32))] ∧ Z.Warmed39 U.vm ∧ U.heap = h0) (fun _ _ _ _ _ => True) (fun _ U o U' => ∃ v L, o = .returned v ∧ Q3h2 Z a1 p1 p2 p3 pa kk vs h0 n0 v U'.heap L ∧ FrameEnd U o U' L ({ frames := 2, cells := 3, slots := 99, locals := 40 } : Room).cells ({ frames := 2, cells := 3, slots := 99, locals := 40 } : Room).slots) := by
  refine MetFree.of_bodySF (plainFor_of_name pn_3) hisR ?_
  intro p e s m args below meth c s₁ Bd hml0 hP hK
  obtain ⟨rfl, hZ, hh⟩ := hP
  have hx := Bd.exec
  have hby := Bd.bytes
  have hml : c.maxLocals = 8 := hml0
  have hown : s.vm.findClass "com/example/facetwork/facetwork/image/RgbaImage" = some m.cls := findClass_of_methodNamed Bd.named
  have hnm := (name_of_methodNamed Bd.named Bd.method).1
  have X0 : Stand p l e ({ frames := 2, cells := 3, slots := 99, locals := 40 } : Room) s m #[(.ref a1), (.int p1), (.int p2), (.int p3), (.int (2 : Int32))] below meth c s₁ [] 0 0 := Stand.of_body Bd
  have e0 : s₁.heap = h0 := by rw [← hh, Bd.state]; rfl
  have N0 := Fr.nil n0
  have pre0 : ∀ t, Steps p.tables e below (s₁.setTop (mkF m 0 #[.val (.ref a1), .val (.int p1), .val (.int p2), .val (.int p3), .val (.int (2 : Int32)), .unset, .unset, .unset] [])) t → Steps p.tables e below (s₁.setTop (entryFrame m #[(.ref a1), (.int p1), (.int p2), (.int p3), (.int (2 : Int32))] 8)) t := fun t k => castTop (ef_3h2 m a1 p1 p2 p3) k
  obtain ⟨hw1, hw2⟩ := own_ge hw0
  have hxw := own_bx hx0 hwx hx3 hw1
  have hyh := own_by hy0 hhy hy2 (by decide)
  have hyh' : p2.toNatClampNeg + 2 ≤ 3 := hyh
  have hw4 : p3.toNatClampNeg ≤ 4 := by omega
  obtain ⟨hn1, hn2⟩ := own_n2 hw1 hw4
  have hnn : ¬ ((p3 * (2 : Int32)) * (4 : Int32)) < 0 := own_nz hn1 (by omega)
  have hnc : ((p3 * (2 : Int32)) * (4 : Int32)).toNatClampNeg = 2 * (4 * p3.toNatClampNeg) := own_clamp hn1
  have hl4 := own_w4 hw1 hw4
  have hlc := own_clamp hl4
  have pre1 : ∀ t, Steps p.tables e below (s₁.setTop (mkF m 19 #[.val (.ref a1), .val (.int p1), .val (.int p2), .val (.int p3), .val (.int (2 : Int32)), .unset, .unset, .unset] [(.ref a1), (.int p3)])) t → Steps p.tables e below (s₁.setTop (entryFrame m #[(.ref a1), (.int p1), (.int p2), (.int p3), (.int (2 : Int32))] 8)) t := by
    intro t k
    refine pre0 t ?_
    refine XS.iloadN X0.here hx rfl (hb hby d3_0) rfl ?_
    show Steps p.tables e below (s₁.setTop (mkF m 1 #[.val (.ref a1), .val (.int p1), .val (.int p2), .val (.int p3), .val (.int (2 : Int32)), .unset, .unset, .unset] [(.int p1)])) _
    refine XS.ifNo X0.here hx rfl (hb hby d3_1) rfl (XT.i0_lt_f hx0) ?_
    show Steps p.tables e below (s₁.setTop (mkF m 4 #[.val (.ref a1), .val (.int p1), .val (.int p2), .val (.int p3), .val (.int (2 : Int32)), .unset, .unset, .unset] [])) _
    refine XS.iloadN X0.here hx rfl (hb hby d3_4) rfl ?_
    show Steps p.tables e below (s₁.setTop (mkF m 5 #[.val (.ref a1), .val (.int p1), .val (.int p2), .val (.int p3), .val (.int (2 : Int32)), .unset, .unset, .unset] [(.int p2)])) _
    refine XS.ifNo X0.here hx rfl (hb hby d3_5) rfl (XT.i0_lt_f hy0) ?_
    show Steps p.tables e below (s₁.setTop (mkF m 8 #[.val (.ref a1), .val (.int p1), .val (.int p2), .val (.int p3), .val (.int (2 : Int32)), .unset, .unset, .unset] [])) _
    refine XS.iloadN X0.here hx rfl (hb hby d3_8) rfl ?_
    show Steps p.tables e below (s₁.setTop (mkF m 9 #[.val (.ref a1), .val (.int p1), .val (.int p2), .val (.int p3), .val (.int (2 : Int32)), .unset, .unset, .unset] [(.int p3)])) _
    refine XS.ifNo X0.here hx rfl (hb hby d3_9) rfl (XT.i0_le_f hw0) ?_
    show Steps p.tables e below (s₁.setTop (mkF m 12 #[.val (.ref a1), .val (.int p1), .val (.int p2), .val (.int p3), .val (.int (2 : Int32)), .unset, .unset, .unset] [])) _
    refine XS.iload X0.here hx rfl (hb hby d3_12) rfl ?_
    show Steps p.tables e below (s₁.setTop (mkF m 14 #[.val (.ref a1), .val (.int p1), .val (.int p2), .val (.int p3), .val (.int (2 : Int32)), .unset, .unset, .unset] [(.int (2 : Int32))])) _
    refine XS.ifNo X0.here hx rfl (hb hby d3_14) rfl (XT.i0_le_f (by decide)) ?_
    show Steps p.tables e below (s₁.setTop (mkF m 17 #[.val (.ref a1), .val (.int p1), .val (.int p2), .val (.int p3), .val (.int (2 : Int32)), .unset, .unset, .unset] [])) _
    refine XS.iloadN X0.here hx rfl (hb hby d3_17) rfl ?_
    show Steps p.tables e below (s₁.setTop (mkF m 18 #[.val (.ref a1), .val (.int p1), .val (.int p2), .val (.int p3), .val (.int (2 : Int32)), .unset, .unset, .unset] [(.int p3)])) _
    refine XS.aloadN X0.here hx rfl (hb hby d3_18) rfl rfl ?_
    show Steps p.tables e below (s₁.setTop (mkF m 19 #[.val (.ref a1), .val (.int p1), .val (.int p2), .val (.int p3), .val (.int (2 : Int32)), .unset, .unset, .unset] [(.ref a1), (.int p3)])) _
    exact k
  obtain ⟨T2, X2, e2, st2⟩ := getF X0 hx hZ hown (host := "") (Or.inl (hw _ (List.mem_of_getElem? (i := 11) rfl))) Via.refl e0 F0 (g := (mkF m 19 #[.val (.ref a1), .val (.int p1), .val (.int p2), .val (.int p3), .val (.int (2 : Int32)), .unset, .unset, .unset] [(.ref a1), (.int p3)])) rfl rfl (hb hby d3_19)
  have pre3 : ∀ t, Steps p.tables e below (T2.setTop (mkF m 22 #[.val (.ref a1), .val (.int p1), .val (.int p2), .val (.int p3), .val (.int (2 : Int32)), .unset, .unset, .unset] [(.int (4 : Int32)), (.int p3)])) t → Steps p.tables e below (s₁.setTop (entryFrame m #[(.ref a1), (.int p1), (.int p2), (.int p3), (.int (2 : Int32))] 8)) t := fun t k => pre1 t (st2 t k)
  have pre4 : ∀ t, Steps p.tables e below (T2.setTop (mkF m 30 #[.val (.ref a1), .val (.int p1), .val (.int p2), .val (.int p3), .val (.int (2 : Int32)), .unset, .unset, .unset] [(.ref a1), (.int (2 : Int32))])) t → Steps p.tables e below (s₁.setTop (entryFrame m #[(.ref a1), (.int p1), (.int p2), (.int p3), (.int (2 : Int32))] 8)) t := by
    intro t k
    refine pre3 t ?_
    refine XS.iloadN X2.here hx rfl (hb hby d3_22) rfl ?_
    show Steps p.tables e below (T2.setTop (mkF m 23 #[.val (.ref a1), .val (.int p1), .val (.int p2), .val (.int p3), .val (.int (2 : Int32)), .unset, .unset, .unset] [(.int p1), (.int (4 : Int32)), (.int p3)])) _
    refine XS.isub X2.here hx rfl (hb hby d3_23) rfl ?_
    show Steps p.tables e below (T2.setTop (mkF m 24 #[.val (.ref a1), .val (.int p1), .val (.int p2), .val (.int p3), .val (.int (2 : Int32)), .unset, .unset, .unset] [(.int ((4 : Int32) - p1)), (.int p3)])) _
    refine XS.icmpNo X2.here hx rfl (hb hby d3_24) rfl (XT.ii_gt_f hwx) ?_
    show Steps p.tables e below (T2.setTop (mkF m 27 #[.val (.ref a1), .val (.int p1), .val (.int p2), .val (.int p3), .val (.int (2 : Int32)), .unset, .unset, .unset] [])) _
    refine XS.iload X2.here hx rfl (hb hby d3_27) rfl ?_
    show Steps p.tables e below (T2.setTop (mkF m 29 #[.val (.ref a1), .val (.int p1), .val (.int p2), .val (.int p3), .val (.int (2 : Int32)), .unset, .unset, .unset] [(.int (2 : Int32))])) _
    refine XS.aloadN X2.here hx rfl (hb hby d3_29) rfl rfl ?_
    show Steps p.tables e below (T2.setTop (mkF m 30 #[.val (.ref a1), .val (.int p1), .val (.int p2), .val (.int p3), .val (.int (2 : Int32)), .unset, .unset, .unset] [(.ref a1), (.int (2 : Int32))])) _
    exact k
  obtain ⟨T5, X5, e5, st5⟩ := getF X2 hx hZ hown (host := "") (Or.inl (hw _ (List.mem_of_getElem? (i := 13) rfl))) Via.refl e2 F1 (g := (mkF m 30 #[.val (.ref a1), .val (.int p1), .val (.int p2), .val (.int p3), .val (.int (2 : Int32)), .unset, .unset, .unset] [(.ref a1), (.int (2 : Int32))])) rfl rfl (hb hby d3_30)
  have pre6 : ∀ t, Steps p.tables e below (T5.setTop (mkF m 33 #[.val (.ref a1), .val (.int p1), .val (.int p2), .val (.int p3), .val (.int (2 : Int32)), .unset, .unset, .unset] [(.int (3 : Int32)), (.int (2 : Int32))])) t → Steps p.tables e below (s₁.setTop (entryFrame m #[(.ref a1), (.int p1), (.int p2), (.int p3), (.int (2 : Int32))] 8)) t := fun t k => pre4 t (st5 t k)
  have pre8 : ∀ t, Steps p.tables e below (T5.setTop (mkF m 70 #[.val (.ref a1), .val (.int p1), .val (.int p2), .val (.int p3), .val (.int (2 : Int32)), .unset, .unset, .unset] [(.int ((p3 * (2 : Int32)) * (4 : Int32)))])) t → Steps p.tables e below (s₁.setTop (entryFrame m #[(.ref a1), (.int p1), (.int p2), (.int p3), (.int (2 : Int32))] 8)) t := by
    intro t k
    refine pre6 t ?_
    refine XS.iloadN X5.here hx rfl (hb hby d3_33) rfl ?_
    show Steps p.tables e below (T5.setTop (mkF m 34 #[.val (.ref a1), .val (.int p1), .val (.int p2), .val (.int p3), .val (.int (2 : Int32)), .unset, .unset, .unset] [(.int p2), (.int (3 : Int32)), (.int (2 : Int32))])) _
    refine XS.isub X5.here hx rfl (hb hby d3_34) rfl ?_
    show Steps p.tables e below (T5.setTop (mkF m 35 #[.val (.ref a1), .val (.int p1), .val (.int p2), .val (.int p3), .val (.int (2 : Int32)), .unset, .unset, .unset] [(.int ((3 : Int32) - p2)), (.int (2 : Int32))])) _
    refine XS.icmpYes X5.here hx rfl (pc0 := 35) (pc' := 64) rfl (hb hby d3_35) rfl (XT.ii_le_t hhy) (by decide) (by decide) ?_
    show Steps p.tables e below (T5.setTop (mkF m 64 #[.val (.ref a1), .val (.int p1), .val (.int p2), .val (.int p3), .val (.int (2 : Int32)), .unset, .unset, .unset] [])) _
    refine XS.iloadN X5.here hx rfl (hb hby d3_64) rfl ?_
    show Steps p.tables e below (T5.setTop (mkF m 65 #[.val (.ref a1), .val (.int p1), .val (.int p2), .val (.int p3), .val (.int (2 : Int32)), .unset, .unset, .unset] [(.int p3)])) _
    refine XS.iload X5.here hx rfl (hb hby d3_65) rfl ?_
    show Steps p.tables e below (T5.setTop (mkF m 67 #[.val (.ref a1), .val (.int p1), .val (.int p2), .val (.int p3), .val (.int (2 : Int32)), .unset, .unset, .unset] [(.int (2 : Int32)), (.int p3)])) _
    refine XS.imul X5.here hx rfl (hb hby d3_67) rfl ?_
    show Steps p.tables e below (T5.setTop (mkF m 68 #[.val (.ref a1), .val (.int p1), .val (.int p2), .val (.int p3), .val (.int (2 : Int32)), .unset, .unset, .unset] [(.int (p3 * (2 : Int32)))])) _
    refine XS.iconst X5.here hx rfl (hb hby d3_68) ?_
    show Steps p.tables e below (T5.setTop (mkF m 69 #[.val (.ref a1), .val (.int p1), .val (.int p2), .val (.int p3), .val (.int (2 : Int32)), .unset, .unset, .unset] [(.int (4 : Int32)), (.int (p3 * (2 : Int32)))])) _
    refine XS.imul X5.here hx rfl (hb hby d3_69) rfl ?_
    show Steps p.tables e below (T5.setTop (mkF m 70 #[.val (.ref a1), .val (.int p1), .val (.int p2), .val (.int p3), .val (.int (2 : Int32)), .unset, .unset, .unset] [(.int ((p3 * (2 : Int32)) * (4 : Int32)))])) _
    exact k
  have K7 : Keep h0 h0 [] := (Keep.refl h0 [])
  obtain ⟨T9, h9, cA9, X9, e9, E9, A9, Ea9, st9⟩ := newPE X5 hx hZ (hw _ (List.mem_of_getElem? (i := 0) rfl)) e5 (g := (mkF m 70 #[.val (.ref a1), .val (.int p1), .val (.int p2), .val (.int p3), .val (.int (2 : Int32)), .unset, .unset, .unset] [(.int ((p3 * (2 : Int32)) * (4 : Int32)))])) rfl (hb hby d3_70) rfl hnn (cap := 48) (by rw [hnc]; omega) (by decide) (by decide) (by decide) (ad := "[B") rfl
  obtain ⟨oa, gz9⟩ : ∃ z, z = h0.size := ⟨_, rfl⟩
  rw [← gz9] at A9 Ea9 st9
  have g_oa : n0 ≤ oa := Nat.le_trans Z0 (Nat.le_of_eq gz9.symm)
  have s_oa : h0.size ≤ oa := Nat.le_trans K7.1 (Nat.le_of_eq gz9.symm)
  have ne_a1_oa : a1 ≠ oa := by rw [gz9]; exact Nat.ne_of_lt F0.lt
  have ne_pa_oa : pa ≠ oa := by rw [gz9]; exact Nat.ne_of_lt V0.lt
  have V9 : Arv Z h9 oa cA9 .byte ((p3 * (2 : Int32)) * (4 : Int32)) (List.replicate 48 (.int (0 : Int32))) (.int (0 : Int32)) := Arv.pad (Arv.new A9 hnn) (pad_rep [] (.int (0 : Int32)) 48)
  have pre10 : ∀ t, Steps p.tables e below (T9.setTop (mkF m 72 #[.val (.ref a1), .val (.int p1), .val (.int p2), .val (.int p3), .val (.int (2 : Int32)), .unset, .unset, .unset] [(.ref oa)])) t → Steps p.tables e below (s₁.setTop (entryFrame m #[(.ref a1), (.int p1), (.int p2), (.int p3), (.int (2 : Int32))] 8)) t := fun t k => pre8 t (st9 t k)
  have F11_0 : Fld Z h9 a1 "com/example/facetwork/facetwork/image/RgbaImage" "width" "I" (.int (4 : Int32)) := (F0.ext E9)
  have F11_1 : Fld Z h9 a1 "com/example/facetwork/facetwork/image/RgbaImage" "height" "I" (.int (3 : Int32)) := (F1.ext E9)
  have F11_2 : Fld Z h9 a1 "com/example/facetwork/facetwork/image/RgbaImage" "pixels" "[B" (.ref pa) := (F2.ext E9)
  have V11_0 : Arv Z h9 pa kk .byte (48 : Int32) vs (.int (0 : Int32)) := (V0.ext E9)
  have K11 : Keep h0 h9 [] := (K7.ext E9)
  have Z11 : n0 ≤ h9.size := (Nat.le_trans Z0 E9.1)
  have R0 := own_rows0 vs p1.toNatClampNeg p2.toNatClampNeg p3.toNatClampNeg
  have pre12 : ∀ t, Steps p.tables e below (T9.setTop (mkF m 90 #[.val (.ref a1), .val (.int p1), .val (.int p2), .val (.int p3), .val (.int (2 : Int32)), .val (.ref oa), .val (.int (p3 * (4 : Int32))), .val (.int (0 : Int32))] [(.ref a1)])) t → Steps p.tables e below (s₁.setTop (entryFrame m #[(.ref a1), (.int p1), (.int p2), (.int p3), (.int (2 : Int32))] 8)) t := by
    intro t k
    refine pre10 t ?_
    refine XS.astore X9.here hx rfl (hb hby d3_72) rfl rfl (l' := #[.val (.ref a1), .val (.int p1), .val (.int p2), .val (.int p3), .val (.int (2 : Int32)), .val (.ref oa), .unset, .unset]) rfl ?_
    show Steps p.tables e below (T9.setTop (mkF m 74 #[.val (.ref a1), .val (.int p1), .val (.int p2), .val (.int p3), .val (.int (2 : Int32)), .val (.ref oa), .unset, .unset] [])) _
    refine XS.iloadN X9.here hx rfl (hb hby d3_74) rfl ?_
    show Steps p.tables e below (T9.setTop (mkF m 75 #[.val (.ref a1), .val (.int p1), .val (.int p2), .val (.int p3), .val (.int (2 : Int32)), .val (.ref oa), .unset, .unset] [(.int p3)])) _
    refine XS.iconst X9.here hx rfl (hb hby d3_75) ?_
    show Steps p.tables e below (T9.setTop (mkF m 76 #[.val (.ref a1), .val (.int p1), .val (.int p2), .val (.int p3), .val (.int (2 : Int32)), .val (.ref oa), .unset, .unset] [(.int (4 : Int32)), (.int p3)])) _
    refine XS.imul X9.here hx rfl (hb hby d3_76) rfl ?_
    show Steps p.tables e below (T9.setTop (mkF m 77 #[.val (.ref a1), .val (.int p1), .val (.int p2), .val (.int p3), .val (.int (2 : Int32)), .val (.ref oa), .unset, .unset] [(.int (p3 * (4 : Int32)))])) _
    refine XS.istore X9.here hx rfl (hb hby d3_77) rfl (l' := #[.val (.ref a1), .val (.int p1), .val (.int p2), .val (.int p3), .val (.int (2 : Int32)), .val (.ref oa), .val (.int (p3 * (4 : Int32))), .unset]) rfl ?_
    show Steps p.tables e below (T9.setTop (mkF m 79 #[.val (.ref a1), .val (.int p1), .val (.int p2), .val (.int p3), .val (.int (2 : Int32)), .val (.ref oa), .val (.int (p3 * (4 : Int32))), .unset] [])) _
    refine XS.iconst X9.here hx rfl (hb hby d3_79) ?_
    show Steps p.tables e below (T9.setTop (mkF m 80 #[.val (.ref a1), .val (.int p1), .val (.int p2), .val (.int p3), .val (.int (2 : Int32)), .val (.ref oa), .val (.int (p3 * (4 : Int32))), .unset] [(.int (0 : Int32))])) _
    refine XS.istore X9.here hx rfl (hb hby d3_80) rfl (l' := #[.val (.ref a1), .val (.int p1), .val (.int p2), .val (.int p3), .val (.int (2 : Int32)), .val (.ref oa), .val (.int (p3 * (4 : Int32))), .val (.int (0 : Int32))]) rfl ?_
    show Steps p.tables e below (T9.setTop (mkF m 82 #[.val (.ref a1), .val (.int p1), .val (.int p2), .val (.int p3), .val (.int (2 : Int32)), .val (.ref oa), .val (.int (p3 * (4 : Int32))), .val (.int (0 : Int32))] [])) _
    refine XS.iload X9.here hx rfl (hb hby d3_82) rfl ?_
    show Steps p.tables e below (T9.setTop (mkF m 84 #[.val (.ref a1), .val (.int p1), .val (.int p2), .val (.int p3), .val (.int (2 : Int32)), .val (.ref oa), .val (.int (p3 * (4 : Int32))), .val (.int (0 : Int32))] [(.int (0 : Int32))])) _
    refine XS.iload X9.here hx rfl (hb hby d3_84) rfl ?_
    show Steps p.tables e below (T9.setTop (mkF m 86 #[.val (.ref a1), .val (.int p1), .val (.int p2), .val (.int p3), .val (.int (2 : Int32)), .val (.ref oa), .val (.int (p3 * (4 : Int32))), .val (.int (0 : Int32))] [(.int (2 : Int32)), (.int (0 : Int32))])) _
    refine XS.icmpNo X9.here hx rfl (hb hby d3_86) rfl (XT.ii_ge_f (by decide)) ?_
    show Steps p.tables e below (T9.setTop (mkF m 89 #[.val (.ref a1), .val (.int p1), .val (.int p2), .val (.int p3), .val (.int (2 : Int32)), .val (.ref oa), .val (.int (p3 * (4 : Int32))), .val (.int (0 : Int32))] [])) _
    refine XS.aloadN X9.here hx rfl (hb hby d3_89) rfl rfl ?_
    show Steps p.tables e below (T9.setTop (mkF m 90 #[.val (.ref a1), .val (.int p1), .val (.int p2), .val (.int p3), .val (.int (2 : Int32)), .val (.ref oa), .val (.int (p3 * (4 : Int32))), .val (.int (0 : Int32))] [(.ref a1)])) _
    exact k
  obtain ⟨T13, X13, e13, st13⟩ := getF X9 hx hZ hown (host := "") (Or.inl (hw _ (List.mem_of_getElem? (i := 24) rfl))) Via.refl e9 F11_2 (g := (mkF m 90 #[.val (.ref a1), .val (.int p1), .val (.int p2), .val (.int p3), .val (.int (2 : Int32)), .val (.ref oa), .val (.int (p3 * (4 : Int32))), .val (.int (0 : Int32))] [(.ref a1)])) rfl rfl (hb hby d3_90)
  have pre14 : ∀ t, Steps p.tables e below (T13.setTop (mkF m 93 #[.val (.ref a1), .val (.int p1), .val (.int p2), .val (.int p3), .val (.int (2 : Int32)), .val (.ref oa), .val (.int (p3 * (4 : Int32))), .val (.int (0 : Int32))] [(.ref pa)])) t → Steps p.tables e below (s₁.setTop (entryFrame m #[(.ref a1), (.int p1), (.int p2), (.int p3), (.int (2 : Int32))] 8)) t := fun t k => pre12 t (st13 t k)
  have pre15 : ∀ t, Steps p.tables e below (T13.setTop (mkF m 98 #[.val (.ref a1), .val (.int p1), .val (.int p2), .val (.int p3), .val (.int (2 : Int32)), .val (.ref oa), .val (.int (p3 * (4 : Int32))), .val (.int (0 : Int32))] [(.ref a1), (.int (p2 + (0 : Int32))), (.ref pa)])) t → Steps p.tables e below (s₁.setTop (entryFrame m #[(.ref a1), (.int p1), (.int p2), (.int p3), (.int (2 : Int32))] 8)) t := by
    intro t k
    refine pre14 t ?_
    refine XS.iloadN X13.here hx rfl (hb hby d3_93) rfl ?_
    show Steps p.tables e below (T13.setTop (mkF m 94 #[.val (.ref a1), .val (.int p1), .val (.int p2), .val (.int p3), .val (.int (2 : Int32)), .val (.ref oa), .val (.int (p3 * (4 : Int32))), .val (.int (0 : Int32))] [(.int p2), (.ref pa)])) _
    refine XS.iload X13.here hx rfl (hb hby d3_94) rfl ?_
    show Steps p.tables e below (T13.setTop (mkF m 96 #[.val (.ref a1), .val (.int p1), .val (.int p2), .val (.int p3), .val (.int (2 : Int32)), .val (.ref oa), .val (.int (p3 * (4 : Int32))), .val (.int (0 : Int32))] [(.int (0 : Int32)), (.int p2), (.ref pa)])) _
    refine XS.iadd X13.here hx rfl (hb hby d3_96) rfl ?_
    show Steps p.tables e below (T13.setTop (mkF m 97 #[.val (.ref a1), .val (.int p1), .val (.int p2), .val (.int p3), .val (.int (2 : Int32)), .val (.ref oa), .val (.int (p3 * (4 : Int32))), .val (.int (0 : Int32))] [(.int (p2 + (0 : Int32))), (.ref pa)])) _
    refine XS.aloadN X13.here hx rfl (hb hby d3_97) rfl rfl ?_
    show Steps p.tables e below (T13.setTop (mkF m 98 #[.val (.ref a1), .val (.int p1), .val (.int p2), .val (.int p3), .val (.int (2 : Int32)), .val (.ref oa), .val (.int (p3 * (4 : Int32))), .val (.int (0 : Int32))] [(.ref a1), (.int (p2 + (0 : Int32))), (.ref pa)])) _
    exact k
  obtain ⟨T16, X16, e16, st16⟩ := getF X13 hx hZ hown (host := "") (Or.inl (hw _ (List.mem_of_getElem? (i := 11) rfl))) Via.refl e13 F11_0 (g := (mkF m 98 #[.val (.ref a1), .val (.int p1), .val (.int p2), .val (.int p3), .val (.int (2 : Int32)), .val (.ref oa), .val (.int (p3 * (4 : Int32))), .val (.int (0 : Int32))] [(.ref a1), (.int (p2 + (0 : Int32))), (.ref pa)])) rfl rfl (hb hby d3_98)
  have pre17 : ∀ t, Steps p.tables e below (T16.setTop (mkF m 101 #[.val (.ref a1), .val (.int p1), .val (.int p2), .val (.int p3), .val (.int (2 : Int32)), .val (.ref oa), .val (.int (p3 * (4 : Int32))), .val (.int (0 : Int32))] [(.int (4 : Int32)), (.int (p2 + (0 : Int32))), (.ref pa)])) t → Steps p.tables e below (s₁.setTop (entryFrame m #[(.ref a1), (.int p1), (.int p2), (.int p3), (.int (2 : Int32))] 8)) t := fun t k => pre15 t (st16 t k)
  have s0 := own_sp0 hx0 hx3 hy0 hy2
  have d0 := own_dp0 hw1 hw4
  have sc0 := own_clamp s0
  have dc0 := own_clamp d0
  have pre19 : ∀ t, Steps p.tables e below (T16.setTop (mkF m 115 #[.val (.ref a1), .val (.int p1), .val (.int p2), .val (.int p3), .val (.int (2 : Int32)), .val (.ref oa), .val (.int (p3 * (4 : Int32))), .val (.int (0 : Int32))] [(.int (p3 * (4 : Int32))), (.int ((0 : Int32) * (p3 * (4 : Int32)))), (.ref oa), (.int ((((p2 + (0 : Int32)) * (4 : Int32)) + p1) * (4 : Int32))), (.ref pa)])) t → Steps p.tables e below (s₁.setTop (entryFrame m #[(.ref a1), (.int p1), (.int p2), (.int p3), (.int (2 : Int32))] 8)) t := by
    intro t k
    refine pre17 t ?_
    refine XS.imul X16.here hx rfl (hb hby d3_101) rfl ?_
    show Steps p.tables e below (T16.setTop (mkF m 102 #[.val (.ref a1), .val (.int p1), .val (.int p2), .val (.int p3), .val (.int (2 : Int32)), .val (.ref oa), .val (.int (p3 * (4 : Int32))), .val (.int (0 : Int32))] [(.int ((p2 + (0 : Int32)) * (4 : Int32))), (.ref pa)])) _
    refine XS.iloadN X16.here hx rfl (hb hby d3_102) rfl ?_
    show Steps p.tables e below (T16.setTop (mkF m 103 #[.val (.ref a1), .val (.int p1), .val (.int p2), .val (.int p3), .val (.int (2 : Int32)), .val (.ref oa), .val (.int (p3 * (4 : Int32))), .val (.int (0 : Int32))] [(.int p1), (.int ((p2 + (0 : Int32)) * (4 : Int32))), (.ref pa)])) _
    refine XS.iadd X16.here hx rfl (hb hby d3_103) rfl ?_
    show Steps p.tables e below (T16.setTop (mkF m 104 #[.val (.ref a1), .val (.int p1), .val (.int p2), .val (.int p3), .val (.int (2 : Int32)), .val (.ref oa), .val (.int (p3 * (4 : Int32))), .val (.int (0 : Int32))] [(.int (((p2 + (0 : Int32)) * (4 : Int32)) + p1)), (.ref pa)])) _
    refine XS.iconst X16.here hx rfl (hb hby d3_104) ?_
    show Steps p.tables e below (T16.setTop (mkF m 105 #[.val (.ref a1), .val (.int p1), .val (.int p2), .val (.int p3), .val (.int (2 : Int32)), .val (.ref oa), .val (.int (p3 * (4 : Int32))), .val (.int (0 : Int32))] [(.int (4 : Int32)), (.int (((p2 + (0 : Int32)) * (4 : Int32)) + p1)), (.ref pa)])) _
    refine XS.imul X16.here hx rfl (hb hby d3_105) rfl ?_
    show Steps p.tables e below (T16.setTop (mkF m 106 #[.val (.ref a1), .val (.int p1), .val (.int p2), .val (.int p3), .val (.int (2 : Int32)), .val (.ref oa), .val (.int (p3 * (4 : Int32))), .val (.int (0 : Int32))] [(.int ((((p2 + (0 : Int32)) * (4 : Int32)) + p1) * (4 : Int32))), (.ref pa)])) _
    refine XS.aload X16.here hx rfl (hb hby d3_106) rfl rfl ?_
    show Steps p.tables e below (T16.setTop (mkF m 108 #[.val (.ref a1), .val (.int p1), .val (.int p2), .val (.int p3), .val (.int (2 : Int32)), .val (.ref oa), .val (.int (p3 * (4 : Int32))), .val (.int (0 : Int32))] [(.ref oa), (.int ((((p2 + (0 : Int32)) * (4 : Int32)) + p1) * (4 : Int32))), (.ref pa)])) _
    refine XS.iload X16.here hx rfl (hb hby d3_108) rfl ?_
    show Steps p.tables e below (T16.setTop (mkF m 110 #[.val (.ref a1), .val (.int p1), .val (.int p2), .val (.int p3), .val (.int (2 : Int32)), .val (.ref oa), .val (.int (p3 * (4 : Int32))), .val (.int (0 : Int32))] [(.int (0 : Int32)), (.ref oa), (.int ((((p2 + (0 : Int32)) * (4 : Int32)) + p1) * (4 : Int32))), (.ref pa)])) _
    refine XS.iload X16.here hx rfl (hb hby d3_110) rfl ?_
    show Steps p.tables e below (T16.setTop (mkF m 112 #[.val (.ref a1), .val (.int p1), .val (.int p2), .val (.int p3), .val (.int (2 : Int32)), .val (.ref oa), .val (.int (p3 * (4 : Int32))), .val (.int (0 : Int32))] [(.int (p3 * (4 : Int32))), (.int (0 : Int32)), (.ref oa), (.int ((((p2 + (0 : Int32)) * (4 : Int32)) + p1) * (4 : Int32))), (.ref pa)])) _
    refine XS.imul X16.here hx rfl (hb hby d3_112) rfl ?_
    show Steps p.tables e below (T16.setTop (mkF m 113 #[.val (.ref a1), .val (.int p1), .val (.int p2), .val (.int p3), .val (.int (2 : Int32)), .val (.ref oa), .val (.int (p3 * (4 : Int32))), .val (.int (0 : Int32))] [(.int ((0 : Int32) * (p3 * (4 : Int32)))), (.ref oa), (.int ((((p2 + (0 : Int32)) * (4 : Int32)) + p1) * (4 : Int32))), (.ref pa)])) _
    refine XS.iload X16.here hx rfl (hb hby d3_113) rfl ?_
    show Steps p.tables e below (T16.setTop (mkF m 115 #[.val (.ref a1), .val (.int p1), .val (.int p2), .val (.int p3), .val (.int (2 : Int32)), .val (.ref oa), .val (.int (p3 * (4 : Int32))), .val (.int (0 : Int32))] [(.int (p3 * (4 : Int32))), (.int ((0 : Int32) * (p3 * (4 : Int32)))), (.ref oa), (.int ((((p2 + (0 : Int32)) * (4 : Int32)) + p1) * (4 : Int32))), (.ref pa)])) _
    exact k
  obtain ⟨T20, h20, L20, X20, e20, N20, Kc20, Vc20, st20⟩ := cpA X16 hx hZ hown (hw _ (List.mem_of_getElem? (i := 34) rfl)) (hw _ (List.mem_of_getElem? (i := 37) rfl)) (hw _ (List.mem_of_getElem? (i := 35) rfl)) (hw _ (List.mem_of_getElem? (i := 36) rfl)) e16 V11_0 V9 (Or.inl ⟨rfl, rfl⟩) (own_nz s0 (by omega)) (own_nz d0 (by omega)) (own_nz hl4 (by omega)) (by rw [sc0, hlc]; show _ ≤ 48; omega) (by rw [dc0, hlc, hnc]; omega) rfl (by rw [dc0, hlc, R0.1]; omega) N0 g_oa (g := (mkF m 115 #[.val (.ref a1), .val (.int p1), .val (.int p2), .val (.int p3), .val (.int (2 : Int32)), .val (.ref oa), .val (.int (p3 * (4 : Int32))), .val (.int (0 : Int32))] [(.int (p3 * (4 : Int32))), (.int ((0 : Int32) * (p3 * (4 : Int32)))), (.ref oa), (.int ((((p2 + (0 : Int32)) * (4 : Int32)) + p1) * (4 : Int32))), (.ref pa)])) rfl (by rw [hml]; rfl) (rest := []) rfl (hb hby d3_115) (by decide) (W := 0) (by show 2 * 0 + _ ≤ _; exact Nat.le_of_eq rfl) (by decide)
  have pre21 : ∀ t, Steps p.tables e below (T20.setTop (mkF m 118 #[.val (.ref a1), .val (.int p1), .val (.int p2), .val (.int p3), .val (.int (2 : Int32)), .val (.ref oa), .val (.int (p3 * (4 : Int32))), .val (.int (0 : Int32))] [])) t → Steps p.tables e below (s₁.setTop (entryFrame m #[(.ref a1), (.int p1), (.int p2), (.int p3), (.int (2 : Int32))] 8)) t := fun t k => pre19 t (st20 t k)
  have F22_0 : Fld Z h20 a1 "com/example/facetwork/facetwork/image/RgbaImage" "width" "I" (.int (4 : Int32)) := (F11_0.keep Kc20 (ninS ne_a1_oa nin0))
  have F22_1 : Fld Z h20 a1 "com/example/facetwork/facetwork/image/RgbaImage" "height" "I" (.int (3 : Int32)) := (F11_1.keep Kc20 (ninS ne_a1_oa nin0))
  have F22_2 : Fld Z h20 a1 "com/example/facetwork/facetwork/image/RgbaImage" "pixels" "[B" (.ref pa) := (F11_2.keep Kc20 (ninS ne_a1_oa nin0))
  have E22_0 : Exa Z h20 oa "[B" := (Ea9.keep Kc20)
  have V22_0 : Arv Z h20 pa kk .byte (48 : Int32) vs (.int (0 : Int32)) := (V11_0.keep Kc20 (ninS ne_pa_oa nin0))
  have K22 : Keep h0 h20 [] := (K11.trans Kc20 (allS (P := fun x => x ∈ [] ∨ h0.size ≤ x) (Or.inr s_oa) all0))
  have Z22 : n0 ≤ h20.size := (Nat.le_trans Z11 Kc20.1)
  have R1 := own_step R0 sc0 dc0 hlc (by rw [dc0, hlc]; omega)
  obtain ⟨u1, hu1⟩ : ∃ u, u = ((List.replicate 48 (.int (0 : Int32))).take ((0 : Int32) * (p3 * (4 : Int32))).toNatClampNeg ++ (List.range (p3 * (4 : Int32)).toNatClampNeg).map (fun i => vs.getD (((((p2 + (0 : Int32)) * (4 : Int32)) + p1) * (4 : Int32)).toNatClampNeg + i) (.int (0 : Int32))) ++ (List.replicate 48 (.int (0 : Int32))).drop (((0 : Int32) * (p3 * (4 : Int32))).toNatClampNeg + (p3 * (4 : Int32)).toNatClampNeg)) := ⟨_, rfl⟩
  have Vu1 : Arv Z h20 oa cA9 .byte ((p3 * (2 : Int32)) * (4 : Int32)) u1 (.int (0 : Int32)) := by rw [hu1]; exact Vc20
  rw [← hu1] at R1
  have pre23 : ∀ t, Steps p.tables e below (T20.setTop (mkF m 90 #[.val (.ref a1), .val (.int p1), .val (.int p2), .val (.int p3), .val (.int (2 : Int32)), .val (.ref oa), .val (.int (p3 * (4 : Int32))), .val (.int ((0 : Int32) + (1 : Int32)))] [(.ref a1)])) t → Steps p.tables e below (s₁.setTop (entryFrame m #[(.ref a1), (.int p1), (.int p2), (.int p3), (.int (2 : Int32))] 8)) t := by
    intro t k
    refine pre21 t ?_
    refine XS.iinc X20.here hx rfl (hb hby d3_118) rfl (l' := #[.val (.ref a1), .val (.int p1), .val (.int p2), .val (.int p3), .val (.int (2 : Int32)), .val (.ref oa), .val (.int (p3 * (4 : Int32))), .val (.int ((0 : Int32) + (1 : Int32)))]) rfl ?_
    show Steps p.tables e below (T20.setTop (mkF m 121 #[.val (.ref a1), .val (.int p1), .val (.int p2), .val (.int p3), .val (.int (2 : Int32)), .val (.ref oa), .val (.int (p3 * (4 : Int32))), .val (.int ((0 : Int32) + (1 : Int32)))] [])) _
    refine XS.goto X20.here hx rfl (pc0 := 121) (pc' := 82) rfl (hb hby d3_121) (by decide) (by decide) ?_
    show Steps p.tables e below (T20.setTop (mkF m 82 #[.val (.ref a1), .val (.int p1), .val (.int p2), .val (.int p3), .val (.int (2 : Int32)), .val (.ref oa), .val (.int (p3 * (4 : Int32))), .val (.int ((0 : Int32) + (1 : Int32)))] [])) _
    refine XS.iload X20.here hx rfl (hb hby d3_82) rfl ?_
    show Steps p.tables e below (T20.setTop (mkF m 84 #[.val (.ref a1), .val (.int p1), .val (.int p2), .val (.int p3), .val (.int (2 : Int32)), .val (.ref oa), .val (.int (p3 * (4 : Int32))), .val (.int ((0 : Int32) + (1 : Int32)))] [(.int ((0 : Int32) + (1 : Int32)))])) _
    refine XS.iload X20.here hx rfl (hb hby d3_84) rfl ?_
    show Steps p.tables e below (T20.setTop (mkF m 86 #[.val (.ref a1), .val (.int p1), .val (.int p2), .val (.int p3), .val (.int (2 : Int32)), .val (.ref oa), .val (.int (p3 * (4 : Int32))), .val (.int ((0 : Int32) + (1 : Int32)))] [(.int (2 : Int32)), (.int ((0 : Int32) + (1 : Int32)))])) _
    refine XS.icmpNo X20.here hx rfl (hb hby d3_86) rfl (XT.ii_ge_f (by decide)) ?_
    show Steps p.tables e below (T20.setTop (mkF m 89 #[.val (.ref a1), .val (.int p1), .val (.int p2), .val (.int p3), .val (.int (2 : Int32)), .val (.ref oa), .val (.int (p3 * (4 : Int32))), .val (.int ((0 : Int32) + (1 : Int32)))] [])) _
    refine XS.aloadN X20.here hx rfl (hb hby d3_89) rfl rfl ?_
    show Steps p.tables e below (T20.setTop (mkF m 90 #[.val (.ref a1), .val (.int p1), .val (.int p2), .val (.int p3), .val (.int (2 : Int32)), .val (.ref oa), .val (.int (p3 * (4 : Int32))), .val (.int ((0 : Int32) + (1 : Int32)))] [(.ref a1)])) _
    exact k
  obtain ⟨T24, X24, e24, st24⟩ := getF X20 hx hZ hown (host := "") (Or.inl (hw _ (List.mem_of_getElem? (i := 24) rfl))) Via.refl e20 F22_2 (g := (mkF m 90 #[.val (.ref a1), .val (.int p1), .val (.int p2), .val (.int p3), .val (.int (2 : Int32)), .val (.ref oa), .val (.int (p3 * (4 : Int32))), .val (.int ((0 : Int32) + (1 : Int32)))] [(.ref a1)])) rfl rfl (hb hby d3_90)
  have pre25 : ∀ t, Steps p.tables e below (T24.setTop (mkF m 93 #[.val (.ref a1), .val (.int p1), .val (.int p2), .val (.int p3), .val (.int (2 : Int32)), .val (.ref oa), .val (.int (p3 * (4 : Int32))), .val (.int ((0 : Int32) + (1 : Int32)))] [(.ref pa)])) t → Steps p.tables e below (s₁.setTop (entryFrame m #[(.ref a1), (.int p1), (.int p2), (.int p3), (.int (2 : Int32))] 8)) t := fun t k => pre23 t (st24 t k)
  have pre26 : ∀ t, Steps p.tables e below (T24.setTop (mkF m 98 #[.val (.ref a1), .val (.int p1), .val (.int p2), .val (.int p3), .val (.int (2 : Int32)), .val (.ref oa), .val (.int (p3 * (4 : Int32))), .val (.int ((0 : Int32) + (1 : Int32)))] [(.ref a1), (.int (p2 + ((0 : Int32) + (1 : Int32)))), (.ref pa)])) t → Steps p.tables e below (s₁.setTop (entryFrame m #[(.ref a1), (.int p1), (.int p2), (.int p3), (.int (2 : Int32))] 8)) t := by
    intro t k
    refine pre25 t ?_
    refine XS.iloadN X24.here hx rfl (hb hby d3_93) rfl ?_
    show Steps p.tables e below (T24.setTop (mkF m 94 #[.val (.ref a1), .val (.int p1), .val (.int p2), .val (.int p3), .val (.int (2 : Int32)), .val (.ref oa), .val (.int (p3 * (4 : Int32))), .val (.int ((0 : Int32) + (1 : Int32)))] [(.int p2), (.ref pa)])) _
    refine XS.iload X24.here hx rfl (hb hby d3_94) rfl ?_
    show Steps p.tables e below (T24.setTop (mkF m 96 #[.val (.ref a1), .val (.int p1), .val (.int p2), .val (.int p3), .val (.int (2 : Int32)), .val (.ref oa), .val (.int (p3 * (4 : Int32))), .val (.int ((0 : Int32) + (1 : Int32)))] [(.int ((0 : Int32) + (1 : Int32))), (.int p2), (.ref pa)])) _
    refine XS.iadd X24.here hx rfl (hb hby d3_96) rfl ?_
    show Steps p.tables e below (T24.setTop (mkF m 97 #[.val (.ref a1), .val (.int p1), .val (.int p2), .val (.int p3), .val (.int (2 : Int32)), .val (.ref oa), .val (.int (p3 * (4 : Int32))), .val (.int ((0 : Int32) + (1 : Int32)))] [(.int (p2 + ((0 : Int32) + (1 : Int32)))), (.ref pa)])) _
    refine XS.aloadN X24.here hx rfl (hb hby d3_97) rfl rfl ?_
    show Steps p.tables e below (T24.setTop (mkF m 98 #[.val (.ref a1), .val (.int p1), .val (.int p2), .val (.int p3), .val (.int (2 : Int32)), .val (.ref oa), .val (.int (p3 * (4 : Int32))), .val (.int ((0 : Int32) + (1 : Int32)))] [(.ref a1), (.int (p2 + ((0 : Int32) + (1 : Int32)))), (.ref pa)])) _
    exact k
  obtain ⟨T27, X27, e27, st27⟩ := getF X24 hx hZ hown (host := "") (Or.inl (hw _ (List.mem_of_getElem? (i := 11) rfl))) Via.refl e24 F22_0 (g := (mkF m 98 #[.val (.ref a1), .val (.int p1), .val (.int p2), .val (.int p3), .val (.int (2 : Int32)), .val (.ref oa), .val (.int (p3 * (4 : Int32))), .val (.int ((0 : Int32) + (1 : Int32)))] [(.ref a1), (.int (p2 + ((0 : Int32) + (1 : Int32)))), (.ref pa)])) rfl rfl (hb hby d3_98)
  have pre28 : ∀ t, Steps p.tables e below (T27.setTop (mkF m 101 #[.val (.ref a1), .val (.int p1), .val (.int p2), .val (.int p3), .val (.int (2 : Int32)), .val (.ref oa), .val (.int (p3 * (4 : Int32))), .val (.int ((0 : Int32) + (1 : Int32)))] [(.int (4 : Int32)), (.int (p2 + ((0 : Int32) + (1 : Int32)))), (.ref pa)])) t → Steps p.tables e below (s₁.setTop (entryFrame m #[(.ref a1), (.int p1), (.int p2), (.int p3), (.int (2 : Int32))] 8)) t := fun t k => pre26 t (st27 t k)
  have s1 := own_sp1 hx0 hx3 hy0 hy2
  have d1 := own_dp1 hw1 hw4
  have sc1 := own_clamp s1
  have dc1 := own_clamp d1
  have pre30 : ∀ t, Steps p.tables e below (T27.setTop (mkF m 115 #[.val (.ref a1), .val (.int p1), .val (.int p2), .val (.int p3), .val (.int (2 : Int32)), .val (.ref oa), .val (.int (p3 * (4 : Int32))), .val (.int ((0 : Int32) + (1 : Int32)))] [(.int (p3 * (4 : Int32))), (.int (((0 : Int32) + (1 : Int32)) * (p3 * (4 : Int32)))), (.ref oa), (.int ((((p2 + ((0 : Int32) + (1 : Int32))) * (4 : Int32)) + p1) * (4 : Int32))), (.ref pa)])) t → Steps p.tables e below (s₁.setTop (entryFrame m #[(.ref a1), (.int p1), (.int p2), (.int p3), (.int (2 : Int32))] 8)) t := by
    intro t k
    refine pre28 t ?_
    refine XS.imul X27.here hx rfl (hb hby d3_101) rfl ?_
    show Steps p.tables e below (T27.setTop (mkF m 102 #[.val (.ref a1), .val (.int p1), .val (.int p2), .val (.int p3), .val (.int (2 : Int32)), .val (.ref oa), .val (.int (p3 * (4 : Int32))), .val (.int ((0 : Int32) + (1 : Int32)))] [(.int ((p2 + ((0 : Int32) + (1 : Int32))) * (4 : Int32))), (.ref pa)])) _
    refine XS.iloadN X27.here hx rfl (hb hby d3_102) rfl ?_
    show Steps p.tables e below (T27.setTop (mkF m 103 #[.val (.ref a1), .val (.int p1), .val (.int p2), .val (.int p3), .val (.int (2 : Int32)), .val (.ref oa), .val (.int (p3 * (4 : Int32))), .val (.int ((0 : Int32) + (1 : Int32)))] [(.int p1), (.int ((p2 + ((0 : Int32) + (1 : Int32))) * (4 : Int32))), (.ref pa)])) _
    refine XS.iadd X27.here hx rfl (hb hby d3_103) rfl ?_
    show Steps p.tables e below (T27.setTop (mkF m 104 #[.val (.ref a1), .val (.int p1), .val (.int p2), .val (.int p3), .val (.int (2 : Int32)), .val (.ref oa), .val (.int (p3 * (4 : Int32))), .val (.int ((0 : Int32) + (1 : Int32)))] [(.int (((p2 + ((0 : Int32) + (1 : Int32))) * (4 : Int32)) + p1)), (.ref pa)])) _
    refine XS.iconst X27.here hx rfl (hb hby d3_104) ?_
    show Steps p.tables e below (T27.setTop (mkF m 105 #[.val (.ref a1), .val (.int p1), .val (.int p2), .val (.int p3), .val (.int (2 : Int32)), .val (.ref oa), .val (.int (p3 * (4 : Int32))), .val (.int ((0 : Int32) + (1 : Int32)))] [(.int (4 : Int32)), (.int (((p2 + ((0 : Int32) + (1 : Int32))) * (4 : Int32)) + p1)), (.ref pa)])) _
    refine XS.imul X27.here hx rfl (hb hby d3_105) rfl ?_
    show Steps p.tables e below (T27.setTop (mkF m 106 #[.val (.ref a1), .val (.int p1), .val (.int p2), .val (.int p3), .val (.int (2 : Int32)), .val (.ref oa), .val (.int (p3 * (4 : Int32))), .val (.int ((0 : Int32) + (1 : Int32)))] [(.int ((((p2 + ((0 : Int32) + (1 : Int32))) * (4 : Int32)) + p1) * (4 : Int32))), (.ref pa)])) _
    refine XS.aload X27.here hx rfl (hb hby d3_106) rfl rfl ?_
    show Steps p.tables e below (T27.setTop (mkF m 108 #[.val (.ref a1), .val (.int p1), .val (.int p2), .val (.int p3), .val (.int (2 : Int32)), .val (.ref oa), .val (.int (p3 * (4 : Int32))), .val (.int ((0 : Int32) + (1 : Int32)))] [(.ref oa), (.int ((((p2 + ((0 : Int32) + (1 : Int32))) * (4 : Int32)) + p1) * (4 : Int32))), (.ref pa)])) _
    refine XS.iload X27.here hx rfl (hb hby d3_108) rfl ?_
    show Steps p.tables e below (T27.setTop (mkF m 110 #[.val (.ref a1), .val (.int p1), .val (.int p2), .val (.int p3), .val (.int (2 : Int32)), .val (.ref oa), .val (.int (p3 * (4 : Int32))), .val (.int ((0 : Int32) + (1 : Int32)))] [(.int ((0 : Int32) + (1 : Int32))), (.ref oa), (.int ((((p2 + ((0 : Int32) + (1 : Int32))) * (4 : Int32)) + p1) * (4 : Int32))), (.ref pa)])) _
    refine XS.iload X27.here hx rfl (hb hby d3_110) rfl ?_
    show Steps p.tables e below (T27.setTop (mkF m 112 #[.val (.ref a1), .val (.int p1), .val (.int p2), .val (.int p3), .val (.int (2 : Int32)), .val (.ref oa), .val (.int (p3 * (4 : Int32))), .val (.int ((0 : Int32) + (1 : Int32)))] [(.int (p3 * (4 : Int32))), (.int ((0 : Int32) + (1 : Int32))), (.ref oa), (.int ((((p2 + ((0 : Int32) + (1 : Int32))) * (4 : Int32)) + p1) * (4 : Int32))), (.ref pa)])) _
    refine XS.imul X27.here hx rfl (hb hby d3_112) rfl ?_
    show Steps p.tables e below (T27.setTop (mkF m 113 #[.val (.ref a1), .val (.int p1), .val (.int p2), .val (.int p3), .val (.int (2 : Int32)), .val (.ref oa), .val (.int (p3 * (4 : Int32))), .val (.int ((0 : Int32) + (1 : Int32)))] [(.int (((0 : Int32) + (1 : Int32)) * (p3 * (4 : Int32)))), (.ref oa), (.int ((((p2 + ((0 : Int32) + (1 : Int32))) * (4 : Int32)) + p1) * (4 : Int32))), (.ref pa)])) _
    refine XS.iload X27.here hx rfl (hb hby d3_113) rfl ?_
    show Steps p.tables e below (T27.setTop (mkF m 115 #[.val (.ref a1), .val (.int p1), .val (.int p2), .val (.int p3), .val (.int (2 : Int32)), .val (.ref oa), .val (.int (p3 * (4 : Int32))), .val (.int ((0 : Int32) + (1 : Int32)))] [(.int (p3 * (4 : Int32))), (.int (((0 : Int32) + (1 : Int32)) * (p3 * (4 : Int32)))), (.ref oa), (.int ((((p2 + ((0 : Int32) + (1 : Int32))) * (4 : Int32)) + p1) * (4 : Int32))), (.ref pa)])) _
    exact k
  obtain ⟨T31, h31, L31, X31, e31, N31, Kc31, Vc31, st31⟩ := cpA X27 hx hZ hown (hw _ (List.mem_of_getElem? (i := 34) rfl)) (hw _ (List.mem_of_getElem? (i := 37) rfl)) (hw _ (List.mem_of_getElem? (i := 35) rfl)) (hw _ (List.mem_of_getElem? (i := 36) rfl)) e27 V22_0 Vu1 (Or.inl ⟨rfl, rfl⟩) (own_nz s1 (by omega)) (own_nz d1 (by omega)) (own_nz hl4 (by omega)) (by rw [sc1, hlc]; show _ ≤ 48; omega) (by rw [dc1, hlc, hnc]; omega) rfl (by rw [dc1, hlc, R1.1]; omega) N20 g_oa (g := (mkF m 115 #[.val (.ref a1), .val (.int p1), .val (.int p2), .val (.int p3), .val (.int (2 : Int32)), .val (.ref oa), .val (.int (p3 * (4 : Int32))), .val (.int ((0 : Int32) + (1 : Int32)))] [(.int (p3 * (4 : Int32))), (.int (((0 : Int32) + (1 : Int32)) * (p3 * (4 : Int32)))), (.ref oa), (.int ((((p2 + ((0 : Int32) + (1 : Int32))) * (4 : Int32)) + p1) * (4 : Int32))), (.ref pa)])) rfl (by rw [hml]; rfl) (rest := []) rfl (hb hby d3_115) (by decide) (W := 0) (by show 2 * 0 + _ ≤ _; exact Nat.le_of_eq rfl) (by decide)
  have pre32 : ∀ t, Steps p.tables e below (T31.setTop (mkF m 118 #[.val (.ref a1), .val (.int p1), .val (.int p2), .val (.int p3), .val (.int (2 : Int32)), .val (.ref oa), .val (.int (p3 * (4 : Int32))), .val (.int ((0 : Int32) + (1 : Int32)))] [])) t → Steps p.tables e below (s₁.setTop (entryFrame m #[(.ref a1), (.int p1), (.int p2), (.int p3), (.int (2 : Int32))] 8)) t := fun t k => pre30 t (st31 t k)
  have F33_0 : Fld Z h31 a1 "com/example/facetwork/facetwork/image/RgbaImage" "width" "I" (.int (4 : Int32)) := (F22_0.keep Kc31 (ninS ne_a1_oa nin0))
  have F33_1 : Fld Z h31 a1 "com/example/facetwork/facetwork/image/RgbaImage" "height" "I" (.int (3 : Int32)) := (F22_1.keep Kc31 (ninS ne_a1_oa nin0))
  have F33_2 : Fld Z h31 a1 "com/example/facetwork/facetwork/image/RgbaImage" "pixels" "[B" (.ref pa) := (F22_2.keep Kc31 (ninS ne_a1_oa nin0))
  have E33_0 : Exa Z h31 oa "[B" := (E22_0.keep Kc31)
  have V33_0 : Arv Z h31 pa kk .byte (48 : Int32) vs (.int (0 : Int32)) := (V22_0.keep Kc31 (ninS ne_pa_oa nin0))
  have K33 : Keep h0 h31 [] := (K22.trans Kc31 (allS (P := fun x => x ∈ [] ∨ h0.size ≤ x) (Or.inr s_oa) all0))
  have Z33 : n0 ≤ h31.size := (Nat.le_trans Z22 Kc31.1)
  have R2 := own_step R1 sc1 dc1 hlc (by rw [dc1, hlc]; omega)
  obtain ⟨u2, hu2⟩ : ∃ u, u = (u1.take (((0 : Int32) + (1 : Int32)) * (p3 * (4 : Int32))).toNatClampNeg ++ (List.range (p3 * (4 : Int32)).toNatClampNeg).map (fun i => vs.getD (((((p2 + ((0 : Int32) + (1 : Int32))) * (4 : Int32)) + p1) * (4 : Int32)).toNatClampNeg + i) (.int (0 : Int32))) ++ u1.drop ((((0 : Int32) + (1 : Int32)) * (p3 * (4 : Int32))).toNatClampNeg + (p3 * (4 : Int32)).toNatClampNeg)) := ⟨_, rfl⟩
  have Vu2 : Arv Z h31 oa cA9 .byte ((p3 * (2 : Int32)) * (4 : Int32)) u2 (.int (0 : Int32)) := by rw [hu2]; exact Vc31
  rw [← hu2] at R2
  have pre35 : ∀ t, Steps p.tables e below (T31.setTop (mkF m 124 #[.val (.ref a1), .val (.int p1), .val (.int p2), .val (.int p3), .val (.int (2 : Int32)), .val (.ref oa), .val (.int (p3 * (4 : Int32))), .val (.int (((0 : Int32) + (1 : Int32)) + (1 : Int32)))] [])) t → Steps p.tables e below (s₁.setTop (entryFrame m #[(.ref a1), (.int p1), (.int p2), (.int p3), (.int (2 : Int32))] 8)) t := by
    intro t k
    refine pre32 t ?_
    refine XS.iinc X31.here hx rfl (hb hby d3_118) rfl (l' := #[.val (.ref a1), .val (.int p1), .val (.int p2), .val (.int p3), .val (.int (2 : Int32)), .val (.ref oa), .val (.int (p3 * (4 : Int32))), .val (.int (((0 : Int32) + (1 : Int32)) + (1 : Int32)))]) rfl ?_
    show Steps p.tables e below (T31.setTop (mkF m 121 #[.val (.ref a1), .val (.int p1), .val (.int p2), .val (.int p3), .val (.int (2 : Int32)), .val (.ref oa), .val (.int (p3 * (4 : Int32))), .val (.int (((0 : Int32) + (1 : Int32)) + (1 : Int32)))] [])) _
    refine XS.goto X31.here hx rfl (pc0 := 121) (pc' := 82) rfl (hb hby d3_121) (by decide) (by decide) ?_
    show Steps p.tables e below (T31.setTop (mkF m 82 #[.val (.ref a1), .val (.int p1), .val (.int p2), .val (.int p3), .val (.int (2 : Int32)), .val (.ref oa), .val (.int (p3 * (4 : Int32))), .val (.int (((0 : Int32) + (1 : Int32)) + (1 : Int32)))] [])) _
    refine XS.iload X31.here hx rfl (hb hby d3_82) rfl ?_
    show Steps p.tables e below (T31.setTop (mkF m 84 #[.val (.ref a1), .val (.int p1), .val (.int p2), .val (.int p3), .val (.int (2 : Int32)), .val (.ref oa), .val (.int (p3 * (4 : Int32))), .val (.int (((0 : Int32) + (1 : Int32)) + (1 : Int32)))] [(.int (((0 : Int32) + (1 : Int32)) + (1 : Int32)))])) _
    refine XS.iload X31.here hx rfl (hb hby d3_84) rfl ?_
    show Steps p.tables e below (T31.setTop (mkF m 86 #[.val (.ref a1), .val (.int p1), .val (.int p2), .val (.int p3), .val (.int (2 : Int32)), .val (.ref oa), .val (.int (p3 * (4 : Int32))), .val (.int (((0 : Int32) + (1 : Int32)) + (1 : Int32)))] [(.int (2 : Int32)), (.int (((0 : Int32) + (1 : Int32)) + (1 : Int32)))])) _
    refine XS.icmpYes X31.here hx rfl (pc0 := 86) (pc' := 124) rfl (hb hby d3_86) rfl (XT.ii_ge_t (by decide)) (by decide) (by decide) ?_
    show Steps p.tables e below (T31.setTop (mkF m 124 #[.val (.ref a1), .val (.int p1), .val (.int p2), .val (.int p3), .val (.int (2 : Int32)), .val (.ref oa), .val (.int (p3 * (4 : Int32))), .val (.int (((0 : Int32) + (1 : Int32)) + (1 : Int32)))] [])) _
    exact k
  obtain ⟨T36, h36, X36, e36, E36, A36, D36, -, st36⟩ := newO X31 hx hZ hown (hw _ (List.mem_of_getElem? (i := 38) rfl)) (hw _ (List.mem_of_getElem? (i := 2) rfl)) (hw _ (List.mem_of_getElem? (i := 3) rfl)) e31 (g := (mkF m 124 #[.val (.ref a1), .val (.int p1), .val (.int p2), .val (.int p3), .val (.int (2 : Int32)), .val (.ref oa), .val (.int (p3 * (4 : Int32))), .val (.int (((0 : Int32) + (1 : Int32)) + (1 : Int32)))] [])) rfl (hb hby d3_124) (by decide) (by decide)
  obtain ⟨im, gz36⟩ : ∃ z, z = h31.size := ⟨_, rfl⟩
  rw [← gz36] at A36 D36 st36
  have g_im : n0 ≤ im := Nat.le_trans Z33 (Nat.le_of_eq gz36.symm)
  have s_im : h0.size ≤ im := Nat.le_trans K33.1 (Nat.le_of_eq gz36.symm)
  have ne_a1_im : a1 ≠ im := by rw [gz36]; exact Nat.ne_of_lt F33_0.lt
  have ne_oa_im : oa ≠ im := by rw [gz36]; exact Nat.ne_of_lt E33_0.lt
  have ne_pa_im : pa ≠ im := by rw [gz36]; exact Nat.ne_of_lt V33_0.lt
  have F_width_im : Fld Z h36 im "com/example/facetwork/facetwork/image/RgbaImage" "width" "I" (.int (0 : Int32)) := D36 (Or.inr (hw _ (List.mem_of_getElem? (i := 12) rfl))) (ty := .int) (by decide)
  have F_height_im : Fld Z h36 im "com/example/facetwork/facetwork/image/RgbaImage" "height" "I" (.int (0 : Int32)) := D36 (Or.inr (hw _ (List.mem_of_getElem? (i := 14) rfl))) (ty := .int) (by decide)
  have F_pixels_im : Fld Z h36 im "com/example/facetwork/facetwork/image/RgbaImage" "pixels" "[B" .null := D36 (Or.inr (hw _ (List.mem_of_getElem? (i := 25) rfl))) (ty := (.array .byte)) (by decide)
  have pre37 : ∀ t, Steps p.tables e below (T36.setTop (mkF m 127 #[.val (.ref a1), .val (.int p1), .val (.int p2), .val (.int p3), .val (.int (2 : Int32)), .val (.ref oa), .val (.int (p3 * (4 : Int32))), .val (.int (((0 : Int32) + (1 : Int32)) + (1 : Int32)))] [(.ref im)])) t → Steps p.tables e below (s₁.setTop (entryFrame m #[(.ref a1), (.int p1), (.int p2), (.int p3), (.int (2 : Int32))] 8)) t := fun t k => pre35 t (st36 t k)
  have F38_0 : Fld Z h36 a1 "com/example/facetwork/facetwork/image/RgbaImage" "width" "I" (.int (4 : Int32)) := (F33_0.ext E36)
  have F38_1 : Fld Z h36 a1 "com/example/facetwork/facetwork/image/RgbaImage" "height" "I" (.int (3 : Int32)) := (F33_1.ext E36)
  have F38_2 : Fld Z h36 a1 "com/example/facetwork/facetwork/image/RgbaImage" "pixels" "[B" (.ref pa) := (F33_2.ext E36)
  have E38_0 : Exa Z h36 oa "[B" := (E33_0.ext E36)
  have V38_0 : Arv Z h36 pa kk .byte (48 : Int32) vs (.int (0 : Int32)) := (V33_0.ext E36)
  have V38_1 : Arv Z h36 oa cA9 .byte ((p3 * (2 : Int32)) * (4 : Int32)) u2 (.int (0 : Int32)) := (Vu2.ext E36)
  have K38 : Keep h0 h36 [] := (K33.ext E36)
  have Z38 : n0 ≤ h36.size := (Nat.le_trans Z33 E36.1)
  have pre40 : ∀ t, Steps p.tables e below (T36.setTop (mkF m 133 #[.val (.ref a1), .val (.int p1), .val (.int p2), .val (.int p3), .val (.int (2 : Int32)), .val (.ref oa), .val (.int (p3 * (4 : Int32))), .val (.int (((0 : Int32) + (1 : Int32)) + (1 : Int32)))] [(.ref oa), (.int (2 : Int32)), (.int p3), (.ref im), (.ref im)])) t → Steps p.tables e below (s₁.setTop (entryFrame m #[(.ref a1), (.int p1), (.int p2), (.int p3), (.int (2 : Int32))] 8)) t := by
    intro t k
    refine pre37 t ?_
    refine XS.dup X36.here hx rfl (hb hby d3_127) rfl rfl ?_
    show Steps p.tables e below (T36.setTop (mkF m 128 #[.val (.ref a1), .val (.int p1), .val (.int p2), .val (.int p3), .val (.int (2 : Int32)), .val (.ref oa), .val (.int (p3 * (4 : Int32))), .val (.int (((0 : Int32) + (1 : Int32)) + (1 : Int32)))] [(.ref im), (.ref im)])) _
    refine XS.iloadN X36.here hx rfl (hb hby d3_128) rfl ?_
    show Steps p.tables e below (T36.setTop (mkF m 129 #[.val (.ref a1), .val (.int p1), .val (.int p2), .val (.int p3), .val (.int (2 : Int32)), .val (.ref oa), .val (.int (p3 * (4 : Int32))), .val (.int (((0 : Int32) + (1 : Int32)) + (1 : Int32)))] [(.int p3), (.ref im), (.ref im)])) _
    refine XS.iload X36.here hx rfl (hb hby d3_129) rfl ?_
    show Steps p.tables e below (T36.setTop (mkF m 131 #[.val (.ref a1), .val (.int p1), .val (.int p2), .val (.int p3), .val (.int (2 : Int32)), .val (.ref oa), .val (.int (p3 * (4 : Int32))), .val (.int (((0 : Int32) + (1 : Int32)) + (1 : Int32)))] [(.int (2 : Int32)), (.int p3), (.ref im), (.ref im)])) _
    refine XS.aload X36.here hx rfl (hb hby d3_131) rfl rfl ?_
    show Steps p.tables e below (T36.setTop (mkF m 133 #[.val (.ref a1), .val (.int p1), .val (.int p2), .val (.int p3), .val (.int (2 : Int32)), .val (.ref oa), .val (.int (p3 * (4 : Int32))), .val (.int (((0 : Int32) + (1 : Int32)) + (1 : Int32)))] [(.ref oa), (.int (2 : Int32)), (.int p3), (.ref im), (.ref im)])) _
    exact k
  obtain ⟨_, _, ⟨T42, L42, k42, n42⟩, -, X42, ⟨Lc42, hQ42, l42, y42, z42⟩, st42⟩ := X36.specialBack hx (y := (⟨"com/example/facetwork/facetwork/image/RgbaImage", "<init>", "(II[B)V"⟩ : MethodName)) rfl hown (mvT hZ (hw _ (List.mem_of_getElem? (i := 39) rfl))) (mvT hZ (hw _ (List.mem_of_getElem? (i := 5) rfl))) (mvT hZ (hw _ (List.mem_of_getElem? (i := 6) rfl))) (by decide) (backOf (W := 1) (rm1 l Z a0 hw [] im p3 (2 : Int32) oa cA9 ((p3 * (2 : Int32)) * (4 : Int32)) u2 h36 n0 Z38 A36 g_im F_width_im F_height_im F_pixels_im E38_0 V38_1 ne_oa_im.symm hw0 (by decide) hn2 (by rw [hnc]; omega)) hZ (hw _ (List.mem_of_getElem? (i := 6) rfl)) (hw _ (List.mem_of_getElem? (i := 3) rfl)) (by decide) (by decide)) (g := (mkF m 133 #[.val (.ref a1), .val (.int p1), .val (.int p2), .val (.int p3), .val (.int (2 : Int32)), .val (.ref oa), .val (.int (p3 * (4 : Int32))), .val (.int (((0 : Int32) + (1 : Int32)) + (1 : Int32)))] [(.ref oa), (.int (2 : Int32)), (.int p3), (.ref im), (.ref im)])) rfl (by rw [hml]; rfl) (Steps.refl _) (a := im) (argsL := [(.int p3), (.int (2 : Int32)), (.ref oa)]) (rest := [(.ref im)]) (lenOf pd_img rfl) rfl (by show 2 * 0 + _ ≤ _; exact Nat.le_of_eq rfl) (hb hby d3_133) (fun _ _ => ⟨rfl, e36, (by decide : 2 + 1 ≤ _), (by decide : 51 + 48 ≤ _)⟩)
  dsimp only [Pt.U, Pt.locs, Pt.cells, Pt.slots] at X42 l42 y42 z42 st42 hQ42
  subst l42 y42 z42
  obtain ⟨pb, rfl, Nq42, Kq42, gq42, Fa42, Fb42, Fc42, Eq42, Vq42⟩ := hQ42
  have N42 := Fr.app N31 Nq42
  have pre43 : ∀ t, Steps p.tables e below (T42.setTop (mkF m 136 #[.val (.ref a1), .val (.int p1), .val (.int p2), .val (.int p3), .val (.int (2 : Int32)), .val (.ref oa), .val (.int (p3 * (4 : Int32))), .val (.int (((0 : Int32) + (1 : Int32)) + (1 : Int32)))] [(.ref im)])) t → Steps p.tables e below (s₁.setTop (entryFrame m #[(.ref a1), (.int p1), (.int p2), (.int p3), (.int (2 : Int32))] 8)) t := fun t k => pre40 t (st42.trans k)
  obtain ⟨Lo44, Xo44, No44⟩ : ∃ L, Stand p l e ({ frames := 2, cells := 3, slots := 99, locals := 40 } : Room) s m #[(.ref a1), (.int p1), (.int p2), (.int p3), (.int (2 : Int32))] below meth c T42 L 3 99 ∧ Fr n0 L := ⟨_, X42, N42⟩
  obtain ⟨h42, e42⟩ : ∃ z, T42.heap = z := ⟨_, rfl⟩
  have g_pb : n0 ≤ pb := Nat.le_trans Z38 gq42
  have s_pb : h0.size ≤ pb := Nat.le_trans K38.1 gq42
  have ne_a1_pb : a1 ≠ pb := Nat.ne_of_lt (Nat.lt_of_lt_of_le F38_0.lt gq42)
  have ne_im_pb : im ≠ pb := Nat.ne_of_lt (Nat.lt_of_lt_of_le F_width_im.lt gq42)
  have ne_oa_pb : oa ≠ pb := Nat.ne_of_lt (Nat.lt_of_lt_of_le E38_0.lt gq42)
  have ne_pa_pb : pa ≠ pb := Nat.ne_of_lt (Nat.lt_of_lt_of_le V38_0.lt gq42)
  rw [e42] at Kq42 Fa42 Fb42 Fc42 Eq42 Vq42
  have F45_0 : Fld Z h42 a1 "com/example/facetwork/facetwork/image/RgbaImage" "width" "I" (.int (4 : Int32)) := (F38_0.keep Kq42 (ninS ne_a1_im nin0))
  have F45_1 : Fld Z h42 a1 "com/example/facetwork/facetwork/image/RgbaImage" "height" "I" (.int (3 : Int32)) := (F38_1.keep Kq42 (ninS ne_a1_im nin0))
  have F45_2 : Fld Z h42 a1 "com/example/facetwork/facetwork/image/RgbaImage" "pixels" "[B" (.ref pa) := (F38_2.keep Kq42 (ninS ne_a1_im nin0))
  have E45_0 : Exa Z h42 oa "[B" := (E38_0.keep Kq42)
  have E45_1 : Exa Z h42 im "com/example/facetwork/facetwork/image/RgbaImage" := (A36.keep Kq42)
  have V45_0 : Arv Z h42 pa kk .byte (48 : Int32) vs (.int (0 : Int32)) := (V38_0.keep Kq42 (ninS ne_pa_im nin0))
  have V45_1 : Arv Z h42 oa cA9 .byte ((p3 * (2 : Int32)) * (4 : Int32)) u2 (.int (0 : Int32)) := (V38_1.keep Kq42 (ninS ne_oa_im nin0))
  have K45 : Keep h0 h42 [] := (K38.trans Kq42 (allS (P := fun x => x ∈ [] ∨ h0.size ≤ x) (Or.inr s_im) all0))
  have Z45 : n0 ≤ h42.size := (Nat.le_trans Z38 Kq42.1)
  obtain ⟨fs, hr, hrun, hended, hW, hsame⟩ := Xo44.leave (v := some (.ref im)) (fun h => by rw [Bd.returns] at h; cases h)
  refine ⟨_, _, pre43 _ ?_, hrun, hended, _, _, rfl, ?_, ⟨_, rfl⟩, hW, hsame.mono (by decide) (by decide)⟩
  · exact retOut Xo44 hx Bd.returns rfl (Or.inr (Or.inr (Or.inr (Or.inr ⟨rfl, rfl, rfl⟩)))) (hb hby d3_136) hr
  · show Q3h2 Z a1 p1 p2 p3 pa kk vs h0 n0 _ T42.heap _
    rw [e42]
    exact ⟨im, pb, cA9, u2, rfl, No44, K45, E45_1, Fa42, Fb42, Fc42, Eq42, Vq42, R2⟩
theorem ef_3h3 (m : MethodId) (a1 : Addr) (p1 : Int32) (p2 : Int32) (p3 : Int32) : entryFrame m #[(.ref a1), (.int p1), (.int p2), (.int p3), (.int (3 : Int32))] 8 = mkF m 0 #[.val (.ref a1), .val (.int p1), .val (.int p2), .val (.int p3), .val (.int (3 : Int32)), .unset, .unset, .unset] [] := by first | (simp [entryFrame, mkF, argsToLocals, Value.category]; done) | rfl
def Q3h3 (Z : State) (a1 : Addr) (p1 : Int32) (p2 : Int32) (p3 : Int32) (pa : Addr) (kk : ClassId) (vs : List Value) (h0 : Heap) (n0 : Nat) (v : Option Value) (h : Heap) (L : List Loc) : Prop := ∃ (im : Addr) (pb : Addr) (kb : ClassId) (ud : List Value), v = some (.ref im) ∧ Fr n0 L ∧ Keep h0 h [] ∧ Exa Z h im "com/example/facetwork/facetwork/image/RgbaImage" ∧ Fld Z h im "com/example/facetwork/facetwork/image/RgbaImage" "width" "I" (.int p3) ∧ Fld Z h im "com/example/facetwork/facetwork/image/RgbaImage" "height" "I" (.int (3 : Int32)) ∧ Fld Z h im "com/example/facetwork/facetwork/image/RgbaImage" "pixels" "[B" (.ref pb) ∧ Exa Z h pb "[B" ∧ Arv Z h pb kb .byte ((p3 * (3 : Int32)) * (4 : Int32)) ud (.int (0 : Int32)) ∧ own_rows vs ud p1.toNatClampNeg p2.toNatClampNeg p3.toNatClampNeg 3
set_option maxRecDepth 65536 in
set_option maxHeartbeats 40000000 in
theorem rm3h3 (l : Launch) (Z : State) (a0 : Array Value) (hw : ∀ d ∈ tables_1, d.before a0 Z = true) (ws : List Jvm.Cond) (a1 : Addr) (p1 : Int32) (p2 : Int32) (p3 : Int32) (pa : Addr) (kk : ClassId) (vs : List Value) (h0 : Heap) (n0 : Nat) (Z0 : n0 ≤ h0.size) (F0 : Fld Z h0 a1 "com/example/facetwork/facetwork/image/RgbaImage" "width" "I" (.int (4 : Int32))) (F1 : Fld Z h0 a1 "com/example/facetwork/facetwork/image/RgbaImage" "height" "I" (.int (3 : Int32))) (F2 : Fld Z h0 a1 "com/example/facetwork/facetwork/image/RgbaImage" "pixels" "[B" (.ref pa)) (V0 : Arv Z h0 pa kk .byte (48 : Int32) vs (.int (0 : Int32))) (hx0 : ¬ p1 < 0) (hx3 : p1.toNatClampNeg ≤ 3) (hy0 : ¬ p2 < 0) (hy2 : p2.toNatClampNeg ≤ 2) (hw0 : 0 < p3) (hwx : ¬ ((4 : Int32) - p1) < p3) (hhy : ¬ ((3 : Int32) - p2) < (3 : Int32)) :
    MetFree l (⟨"com/example/facetwork/facetwork/image/RgbaImage", "crop", "(IIII)Lcom/example/facetwork/facetwork/image/RgbaImage;"⟩ : MethodName) (head1 (Jvm.Cond.code (⟨"com/example/facetwork/facetwork/image/RgbaImage", "crop", "(IIII)Lcom/example/facetwork/facetwork/image/RgbaImage;"⟩ : MethodName) prog_4_method_5_code 8 (some (.object "com/example/facetwork/facetwork/image/RgbaImage")) :: ws) ({ frames := 2, cells := 3, slots := 99, locals := 40 } : Room)) (fun a U => a = #[(.ref a1), (.int p1), (.int p2), (.int p3), (.int (3 : Int32))] ∧ Z.Warmed39 U.vm ∧ U.heap = h0) (fun _ _ _ _ _ => True) (fun _ U o U' => ∃ v L, o = .returned v ∧ Q3h3 Z a1 p1 p2 p3 pa kk vs h0 n0 v U'.heap L ∧ FrameEnd U o U' L ({ frames := 2, cells := 3, slots := 99, locals := 40 } : Room).cells ({ frames := 2, cells := 3, slots := 99, locals := 40 } : Room).slots) := by
  refine MetFree.of_bodySF (plainFor_of_name pn_3) hisR ?_
  intro p e s m args below meth c s₁ Bd hml0 hP hK
  obtain ⟨rfl, hZ, hh⟩ := hP
  have hx := Bd.exec
  have hby := Bd.bytes
  have hml : c.maxLocals = 8 := hml0
  have hown : s.vm.findClass "com/example/facetwork/facetwork/image/RgbaImage" = some m.cls := findClass_of_methodNamed Bd.named
  have hnm := (name_of_methodNamed Bd.named Bd.method).1
  have X0 : Stand p l e ({ frames := 2, cells := 3, slots := 99, locals := 40 } : Room) s m #[(.ref a1), (.int p1), (.int p2), (.int p3), (.int (3 : Int32))] below meth c s₁ [] 0 0 := Stand.of_body Bd
  have e0 : s₁.heap = h0 := by rw [← hh, Bd.state]; rfl
  have N0 := Fr.nil n0
  have pre0 : ∀ t, Steps p.tables e below (s₁.setTop (mkF m 0 #[.val (.ref a1), .val (.int p1), .val (.int p2), .val (.int p3), .val (.int (3 : Int32)), .unset, .unset, .unset] [])) t → Steps p.tables e below (s₁.setTop (entryFrame m #[(.ref a1), (.int p1), (.int p2), (.int p3), (.int (3 : Int32))] 8)) t := fun t k => castTop (ef_3h3 m a1 p1 p2 p3) k
  obtain ⟨hw1, hw2⟩ := own_ge hw0
  have hxw := own_bx hx0 hwx hx3 hw1
  have hyh := own_by hy0 hhy hy2 (by decide)
  have hyh' : p2.toNatClampNeg + 3 ≤ 3 := hyh
  have hw4 : p3.toNatClampNeg ≤ 4 := by omega
  obtain ⟨hn1, hn2⟩ := own_n3 hw1 hw4
  have hnn : ¬ ((p3 * (3 : Int32)) * (4 : Int32)) < 0 := own_nz hn1 (by omega)
  have hnc : ((p3 * (3 : Int32)) * (4 : Int32)).toNatClampNeg = 3 * (4 * p3.toNatClampNeg) := own_clamp hn1
  have hl4 := own_w4 hw1 hw4
  have hlc := own_clamp hl4
  have pre1 : ∀ t, Steps p.tables e below (s₁.setTop (mkF m 19 #[.val (.ref a1), .val (.int p1), .val (.int p2), .val (.int p3), .val (.int (3 : Int32)), .unset, .unset, .unset] [(.ref a1), (.int p3)])) t → Steps p.tables e below (s₁.setTop (entryFrame m #[(.ref a1), (.int p1), (.int p2), (.int p3), (.int (3 : Int32))] 8)) t := by
    intro t k
    refine pre0 t ?_
    refine XS.iloadN X0.here hx rfl (hb hby d3_0) rfl ?_
    show Steps p.tables e below (s₁.setTop (mkF m 1 #[.val (.ref a1), .val (.int p1), .val (.int p2), .val (.int p3), .val (.int (3 : Int32)), .unset, .unset, .unset] [(.int p1)])) _
    refine XS.ifNo X0.here hx rfl (hb hby d3_1) rfl (XT.i0_lt_f hx0) ?_
    show Steps p.tables e below (s₁.setTop (mkF m 4 #[.val (.ref a1), .val (.int p1), .val (.int p2), .val (.int p3), .val (.int (3 : Int32)), .unset, .unset, .unset] [])) _
    refine XS.iloadN X0.here hx rfl (hb hby d3_4) rfl ?_
    show Steps p.tables e below (s₁.setTop (mkF m 5 #[.val (.ref a1), .val (.int p1), .val (.int p2), .val (.int p3), .val (.int (3 : Int32)), .unset, .unset, .unset] [(.int p2)])) _
    refine XS.ifNo X0.here hx rfl (hb hby d3_5) rfl (XT.i0_lt_f hy0) ?_
    show Steps p.tables e below (s₁.setTop (mkF m 8 #[.val (.ref a1), .val (.int p1), .val (.int p2), .val (.int p3), .val (.int (3 : Int32)), .unset, .unset, .unset] [])) _
    refine XS.iloadN X0.here hx rfl (hb hby d3_8) rfl ?_
    show Steps p.tables e below (s₁.setTop (mkF m 9 #[.val (.ref a1), .val (.int p1), .val (.int p2), .val (.int p3), .val (.int (3 : Int32)), .unset, .unset, .unset] [(.int p3)])) _
    refine XS.ifNo X0.here hx rfl (hb hby d3_9) rfl (XT.i0_le_f hw0) ?_
    show Steps p.tables e below (s₁.setTop (mkF m 12 #[.val (.ref a1), .val (.int p1), .val (.int p2), .val (.int p3), .val (.int (3 : Int32)), .unset, .unset, .unset] [])) _
    refine XS.iload X0.here hx rfl (hb hby d3_12) rfl ?_
    show Steps p.tables e below (s₁.setTop (mkF m 14 #[.val (.ref a1), .val (.int p1), .val (.int p2), .val (.int p3), .val (.int (3 : Int32)), .unset, .unset, .unset] [(.int (3 : Int32))])) _
    refine XS.ifNo X0.here hx rfl (hb hby d3_14) rfl (XT.i0_le_f (by decide)) ?_
    show Steps p.tables e below (s₁.setTop (mkF m 17 #[.val (.ref a1), .val (.int p1), .val (.int p2), .val (.int p3), .val (.int (3 : Int32)), .unset, .unset, .unset] [])) _
    refine XS.iloadN X0.here hx rfl (hb hby d3_17) rfl ?_
    show Steps p.tables e below (s₁.setTop (mkF m 18 #[.val (.ref a1), .val (.int p1), .val (.int p2), .val (.int p3), .val (.int (3 : Int32)), .unset, .unset, .unset] [(.int p3)])) _
    refine XS.aloadN X0.here hx rfl (hb hby d3_18) rfl rfl ?_
    show Steps p.tables e below (s₁.setTop (mkF m 19 #[.val (.ref a1), .val (.int p1), .val (.int p2), .val (.int p3), .val (.int (3 : Int32)), .unset, .unset, .unset] [(.ref a1), (.int p3)])) _
    exact k
  obtain ⟨T2, X2, e2, st2⟩ := getF X0 hx hZ hown (host := "") (Or.inl (hw _ (List.mem_of_getElem? (i := 11) rfl))) Via.refl e0 F0 (g := (mkF m 19 #[.val (.ref a1), .val (.int p1), .val (.int p2), .val (.int p3), .val (.int (3 : Int32)), .unset, .unset, .unset] [(.ref a1), (.int p3)])) rfl rfl (hb hby d3_19)
  have pre3 : ∀ t, Steps p.tables e below (T2.setTop (mkF m 22 #[.val (.ref a1), .val (.int p1), .val (.int p2), .val (.int p3), .val (.int (3 : Int32)), .unset, .unset, .unset] [(.int (4 : Int32)), (.int p3)])) t → Steps p.tables e below (s₁.setTop (entryFrame m #[(.ref a1), (.int p1), (.int p2), (.int p3), (.int (3 : Int32))] 8)) t := fun t k => pre1 t (st2 t k)
  have pre4 : ∀ t, Steps p.tables e below (T2.setTop (mkF m 30 #[.val (.ref a1), .val (.int p1), .val (.int p2), .val (.int p3), .val (.int (3 : Int32)), .unset, .unset, .unset] [(.ref a1), (.int (3 : Int32))])) t → Steps p.tables e below (s₁.setTop (entryFrame m #[(.ref a1), (.int p1), (.int p2), (.int p3), (.int (3 : Int32))] 8)) t := by
    intro t k
    refine pre3 t ?_
    refine XS.iloadN X2.here hx rfl (hb hby d3_22) rfl ?_
    show Steps p.tables e below (T2.setTop (mkF m 23 #[.val (.ref a1), .val (.int p1), .val (.int p2), .val (.int p3), .val (.int (3 : Int32)), .unset, .unset, .unset] [(.int p1), (.int (4 : Int32)), (.int p3)])) _
    refine XS.isub X2.here hx rfl (hb hby d3_23) rfl ?_
    show Steps p.tables e below (T2.setTop (mkF m 24 #[.val (.ref a1), .val (.int p1), .val (.int p2), .val (.int p3), .val (.int (3 : Int32)), .unset, .unset, .unset] [(.int ((4 : Int32) - p1)), (.int p3)])) _
    refine XS.icmpNo X2.here hx rfl (hb hby d3_24) rfl (XT.ii_gt_f hwx) ?_
    show Steps p.tables e below (T2.setTop (mkF m 27 #[.val (.ref a1), .val (.int p1), .val (.int p2), .val (.int p3), .val (.int (3 : Int32)), .unset, .unset, .unset] [])) _
    refine XS.iload X2.here hx rfl (hb hby d3_27) rfl ?_
    show Steps p.tables e below (T2.setTop (mkF m 29 #[.val (.ref a1), .val (.int p1), .val (.int p2), .val (.int p3), .val (.int (3 : Int32)), .unset, .unset, .unset] [(.int (3 : Int32))])) _
    refine XS.aloadN X2.here hx rfl (hb hby d3_29) rfl rfl ?_
    show Steps p.tables e below (T2.setTop (mkF m 30 #[.val (.ref a1), .val (.int p1), .val (.int p2), .val (.int p3), .val (.int (3 : Int32)), .unset, .unset, .unset] [(.ref a1), (.int (3 : Int32))])) _
    exact k
  obtain ⟨T5, X5, e5, st5⟩ := getF X2 hx hZ hown (host := "") (Or.inl (hw _ (List.mem_of_getElem? (i := 13) rfl))) Via.refl e2 F1 (g := (mkF m 30 #[.val (.ref a1), .val (.int p1), .val (.int p2), .val (.int p3), .val (.int (3 : Int32)), .unset, .unset, .unset] [(.ref a1), (.int (3 : Int32))])) rfl rfl (hb hby d3_30)
  have pre6 : ∀ t, Steps p.tables e below (T5.setTop (mkF m 33 #[.val (.ref a1), .val (.int p1), .val (.int p2), .val (.int p3), .val (.int (3 : Int32)), .unset, .unset, .unset] [(.int (3 : Int32)), (.int (3 : Int32))])) t → Steps p.tables e below (s₁.setTop (entryFrame m #[(.ref a1), (.int p1), (.int p2), (.int p3), (.int (3 : Int32))] 8)) t := fun t k => pre4 t (st5 t k)
  have pre8 : ∀ t, Steps p.tables e below (T5.setTop (mkF m 70 #[.val (.ref a1), .val (.int p1), .val (.int p2), .val (.int p3), .val (.int (3 : Int32)), .unset, .unset, .unset] [(.int ((p3 * (3 : Int32)) * (4 : Int32)))])) t → Steps p.tables e below (s₁.setTop (entryFrame m #[(.ref a1), (.int p1), (.int p2), (.int p3), (.int (3 : Int32))] 8)) t := by
    intro t k
    refine pre6 t ?_
    refine XS.iloadN X5.here hx rfl (hb hby d3_33) rfl ?_
    show Steps p.tables e below (T5.setTop (mkF m 34 #[.val (.ref a1), .val (.int p1), .val (.int p2), .val (.int p3), .val (.int (3 : Int32)), .unset, .unset, .unset] [(.int p2), (.int (3 : Int32)), (.int (3 : Int32))])) _
    refine XS.isub X5.here hx rfl (hb hby d3_34) rfl ?_
    show Steps p.tables e below (T5.setTop (mkF m 35 #[.val (.ref a1), .val (.int p1), .val (.int p2), .val (.int p3), .val (.int (3 : Int32)), .unset, .unset, .unset] [(.int ((3 : Int32) - p2)), (.int (3 : Int32))])) _
    refine XS.icmpYes X5.here hx rfl (pc0 := 35) (pc' := 64) rfl (hb hby d3_35) rfl (XT.ii_le_t hhy) (by decide) (by decide) ?_
    show Steps p.tables e below (T5.setTop (mkF m 64 #[.val (.ref a1), .val (.int p1), .val (.int p2), .val (.int p3), .val (.int (3 : Int32)), .unset, .unset, .unset] [])) _
    refine XS.iloadN X5.here hx rfl (hb hby d3_64) rfl ?_
    show Steps p.tables e below (T5.setTop (mkF m 65 #[.val (.ref a1), .val (.int p1), .val (.int p2), .val (.int p3), .val (.int (3 : Int32)), .unset, .unset, .unset] [(.int p3)])) _
    refine XS.iload X5.here hx rfl (hb hby d3_65) rfl ?_
    show Steps p.tables e below (T5.setTop (mkF m 67 #[.val (.ref a1), .val (.int p1), .val (.int p2), .val (.int p3), .val (.int (3 : Int32)), .unset, .unset, .unset] [(.int (3 : Int32)), (.int p3)])) _
    refine XS.imul X5.here hx rfl (hb hby d3_67) rfl ?_
    show Steps p.tables e below (T5.setTop (mkF m 68 #[.val (.ref a1), .val (.int p1), .val (.int p2), .val (.int p3), .val (.int (3 : Int32)), .unset, .unset, .unset] [(.int (p3 * (3 : Int32)))])) _
    refine XS.iconst X5.here hx rfl (hb hby d3_68) ?_
    show Steps p.tables e below (T5.setTop (mkF m 69 #[.val (.ref a1), .val (.int p1), .val (.int p2), .val (.int p3), .val (.int (3 : Int32)), .unset, .unset, .unset] [(.int (4 : Int32)), (.int (p3 * (3 : Int32)))])) _
    refine XS.imul X5.here hx rfl (hb hby d3_69) rfl ?_
    show Steps p.tables e below (T5.setTop (mkF m 70 #[.val (.ref a1), .val (.int p1), .val (.int p2), .val (.int p3), .val (.int (3 : Int32)), .unset, .unset, .unset] [(.int ((p3 * (3 : Int32)) * (4 : Int32)))])) _
    exact k
  have K7 : Keep h0 h0 [] := (Keep.refl h0 [])
  obtain ⟨T9, h9, cA9, X9, e9, E9, A9, Ea9, st9⟩ := newPE X5 hx hZ (hw _ (List.mem_of_getElem? (i := 0) rfl)) e5 (g := (mkF m 70 #[.val (.ref a1), .val (.int p1), .val (.int p2), .val (.int p3), .val (.int (3 : Int32)), .unset, .unset, .unset] [(.int ((p3 * (3 : Int32)) * (4 : Int32)))])) rfl (hb hby d3_70) rfl hnn (cap := 48) (by rw [hnc]; omega) (by decide) (by decide) (by decide) (ad := "[B") rfl
  obtain ⟨oa, gz9⟩ : ∃ z, z = h0.size := ⟨_, rfl⟩
  rw [← gz9] at A9 Ea9 st9
  have g_oa : n0 ≤ oa := Nat.le_trans Z0 (Nat.le_of_eq gz9.symm)
  have s_oa : h0.size ≤ oa := Nat.le_trans K7.1 (Nat.le_of_eq gz9.symm)
  have ne_a1_oa : a1 ≠ oa := by rw [gz9]; exact Nat.ne_of_lt F0.lt
  have ne_pa_oa : pa ≠ oa := by rw [gz9]; exact Nat.ne_of_lt V0.lt
  have V9 : Arv Z h9 oa cA9 .byte ((p3 * (3 : Int32)) * (4 : Int32)) (List.replicate 48 (.int (0 : Int32))) (.int (0 : Int32)) := Arv.pad (Arv.new A9 hnn) (pad_rep [] (.int (0 : Int32)) 48)
  have pre10 : ∀ t, Steps p.tables e below (T9.setTop (mkF m 72 #[.val (.ref a1), .val (.int p1), .val (.int p2), .val (.int p3), .val (.int (3 : Int32)), .unset, .unset, .unset] [(.ref oa)])) t → Steps p.tables e below (s₁.setTop (entryFrame m #[(.ref a1), (.int p1), (.int p2), (.int p3), (.int (3 : Int32))] 8)) t := fun t k => pre8 t (st9 t k)
  have F11_0 : Fld Z h9 a1 "com/example/facetwork/facetwork/image/RgbaImage" "width" "I" (.int (4 : Int32)) := (F0.ext E9)
  have F11_1 : Fld Z h9 a1 "com/example/facetwork/facetwork/image/RgbaImage" "height" "I" (.int (3 : Int32)) := (F1.ext E9)
  have F11_2 : Fld Z h9 a1 "com/example/facetwork/facetwork/image/RgbaImage" "pixels" "[B" (.ref pa) := (F2.ext E9)
  have V11_0 : Arv Z h9 pa kk .byte (48 : Int32) vs (.int (0 : Int32)) := (V0.ext E9)
  have K11 : Keep h0 h9 [] := (K7.ext E9)
  have Z11 : n0 ≤ h9.size := (Nat.le_trans Z0 E9.1)
  have R0 := own_rows0 vs p1.toNatClampNeg p2.toNatClampNeg p3.toNatClampNeg
  have pre12 : ∀ t, Steps p.tables e below (T9.setTop (mkF m 90 #[.val (.ref a1), .val (.int p1), .val (.int p2), .val (.int p3), .val (.int (3 : Int32)), .val (.ref oa), .val (.int (p3 * (4 : Int32))), .val (.int (0 : Int32))] [(.ref a1)])) t → Steps p.tables e below (s₁.setTop (entryFrame m #[(.ref a1), (.int p1), (.int p2), (.int p3), (.int (3 : Int32))] 8)) t := by
    intro t k
    refine pre10 t ?_
    refine XS.astore X9.here hx rfl (hb hby d3_72) rfl rfl (l' := #[.val (.ref a1), .val (.int p1), .val (.int p2), .val (.int p3), .val (.int (3 : Int32)), .val (.ref oa), .unset, .unset]) rfl ?_
    show Steps p.tables e below (T9.setTop (mkF m 74 #[.val (.ref a1), .val (.int p1), .val (.int p2), .val (.int p3), .val (.int (3 : Int32)), .val (.ref oa), .unset, .unset] [])) _
    refine XS.iloadN X9.here hx rfl (hb hby d3_74) rfl ?_
    show Steps p.tables e below (T9.setTop (mkF m 75 #[.val (.ref a1), .val (.int p1), .val (.int p2), .val (.int p3), .val (.int (3 : Int32)), .val (.ref oa), .unset, .unset] [(.int p3)])) _
    refine XS.iconst X9.here hx rfl (hb hby d3_75) ?_
    show Steps p.tables e below (T9.setTop (mkF m 76 #[.val (.ref a1), .val (.int p1), .val (.int p2), .val (.int p3), .val (.int (3 : Int32)), .val (.ref oa), .unset, .unset] [(.int (4 : Int32)), (.int p3)])) _
    refine XS.imul X9.here hx rfl (hb hby d3_76) rfl ?_
    show Steps p.tables e below (T9.setTop (mkF m 77 #[.val (.ref a1), .val (.int p1), .val (.int p2), .val (.int p3), .val (.int (3 : Int32)), .val (.ref oa), .unset, .unset] [(.int (p3 * (4 : Int32)))])) _
    refine XS.istore X9.here hx rfl (hb hby d3_77) rfl (l' := #[.val (.ref a1), .val (.int p1), .val (.int p2), .val (.int p3), .val (.int (3 : Int32)), .val (.ref oa), .val (.int (p3 * (4 : Int32))), .unset]) rfl ?_
    show Steps p.tables e below (T9.setTop (mkF m 79 #[.val (.ref a1), .val (.int p1), .val (.int p2), .val (.int p3), .val (.int (3 : Int32)), .val (.ref oa), .val (.int (p3 * (4 : Int32))), .unset] [])) _
    refine XS.iconst X9.here hx rfl (hb hby d3_79) ?_
    show Steps p.tables e below (T9.setTop (mkF m 80 #[.val (.ref a1), .val (.int p1), .val (.int p2), .val (.int p3), .val (.int (3 : Int32)), .val (.ref oa), .val (.int (p3 * (4 : Int32))), .unset] [(.int (0 : Int32))])) _
    refine XS.istore X9.here hx rfl (hb hby d3_80) rfl (l' := #[.val (.ref a1), .val (.int p1), .val (.int p2), .val (.int p3), .val (.int (3 : Int32)), .val (.ref oa), .val (.int (p3 * (4 : Int32))), .val (.int (0 : Int32))]) rfl ?_
    show Steps p.tables e below (T9.setTop (mkF m 82 #[.val (.ref a1), .val (.int p1), .val (.int p2), .val (.int p3), .val (.int (3 : Int32)), .val (.ref oa), .val (.int (p3 * (4 : Int32))), .val (.int (0 : Int32))] [])) _
    refine XS.iload X9.here hx rfl (hb hby d3_82) rfl ?_
    show Steps p.tables e below (T9.setTop (mkF m 84 #[.val (.ref a1), .val (.int p1), .val (.int p2), .val (.int p3), .val (.int (3 : Int32)), .val (.ref oa), .val (.int (p3 * (4 : Int32))), .val (.int (0 : Int32))] [(.int (0 : Int32))])) _
    refine XS.iload X9.here hx rfl (hb hby d3_84) rfl ?_
    show Steps p.tables e below (T9.setTop (mkF m 86 #[.val (.ref a1), .val (.int p1), .val (.int p2), .val (.int p3), .val (.int (3 : Int32)), .val (.ref oa), .val (.int (p3 * (4 : Int32))), .val (.int (0 : Int32))] [(.int (3 : Int32)), (.int (0 : Int32))])) _
    refine XS.icmpNo X9.here hx rfl (hb hby d3_86) rfl (XT.ii_ge_f (by decide)) ?_
    show Steps p.tables e below (T9.setTop (mkF m 89 #[.val (.ref a1), .val (.int p1), .val (.int p2), .val (.int p3), .val (.int (3 : Int32)), .val (.ref oa), .val (.int (p3 * (4 : Int32))), .val (.int (0 : Int32))] [])) _
    refine XS.aloadN X9.here hx rfl (hb hby d3_89) rfl rfl ?_
    show Steps p.tables e below (T9.setTop (mkF m 90 #[.val (.ref a1), .val (.int p1), .val (.int p2), .val (.int p3), .val (.int (3 : Int32)), .val (.ref oa), .val (.int (p3 * (4 : Int32))), .val (.int (0 : Int32))] [(.ref a1)])) _
    exact k
  obtain ⟨T13, X13, e13, st13⟩ := getF X9 hx hZ hown (host := "") (Or.inl (hw _ (List.mem_of_getElem? (i := 24) rfl))) Via.refl e9 F11_2 (g := (mkF m 90 #[.val (.ref a1), .val (.int p1), .val (.int p2), .val (.int p3), .val (.int (3 : Int32)), .val (.ref oa), .val (.int (p3 * (4 : Int32))), .val (.int (0 : Int32))] [(.ref a1)])) rfl rfl (hb hby d3_90)
  have pre14 : ∀ t, Steps p.tables e below (T13.setTop (mkF m 93 #[.val (.ref a1), .val (.int p1), .val (.int p2), .val (.int p3), .val (.int (3 : Int32)), .val (.ref oa), .val (.int (p3 * (4 : Int32))), .val (.int (0 : Int32))] [(.ref pa)])) t → Steps p.tables e below (s₁.setTop (entryFrame m #[(.ref a1), (.int p1), (.int p2), (.int p3), (.int (3 : Int32))] 8)) t := fun t k => pre12 t (st13 t k)
  have pre15 : ∀ t, Steps p.tables e below (T13.setTop (mkF m 98 #[.val (.ref a1), .val (.int p1), .val (.int p2), .val (.int p3), .val (.int (3 : Int32)), .val (.ref oa), .val (.int (p3 * (4 : Int32))), .val (.int (0 : Int32))] [(.ref a1), (.int (p2 + (0 : Int32))), (.ref pa)])) t → Steps p.tables e below (s₁.setTop (entryFrame m #[(.ref a1), (.int p1), (.int p2), (.int p3), (.int (3 : Int32))] 8)) t := by
    intro t k
    refine pre14 t ?_
    refine XS.iloadN X13.here hx rfl (hb hby d3_93) rfl ?_
    show Steps p.tables e below (T13.setTop (mkF m 94 #[.val (.ref a1), .val (.int p1), .val (.int p2), .val (.int p3), .val (.int (3 : Int32)), .val (.ref oa), .val (.int (p3 * (4 : Int32))), .val (.int (0 : Int32))] [(.int p2), (.ref pa)])) _
    refine XS.iload X13.here hx rfl (hb hby d3_94) rfl ?_
    show Steps p.tables e below (T13.setTop (mkF m 96 #[.val (.ref a1), .val (.int p1), .val (.int p2), .val (.int p3), .val (.int (3 : Int32)), .val (.ref oa), .val (.int (p3 * (4 : Int32))), .val (.int (0 : Int32))] [(.int (0 : Int32)), (.int p2), (.ref pa)])) _
    refine XS.iadd X13.here hx rfl (hb hby d3_96) rfl ?_
    show Steps p.tables e below (T13.setTop (mkF m 97 #[.val (.ref a1), .val (.int p1), .val (.int p2), .val (.int p3), .val (.int (3 : Int32)), .val (.ref oa), .val (.int (p3 * (4 : Int32))), .val (.int (0 : Int32))] [(.int (p2 + (0 : Int32))), (.ref pa)])) _
    refine XS.aloadN X13.here hx rfl (hb hby d3_97) rfl rfl ?_
    show Steps p.tables e below (T13.setTop (mkF m 98 #[.val (.ref a1), .val (.int p1), .val (.int p2), .val (.int p3), .val (.int (3 : Int32)), .val (.ref oa), .val (.int (p3 * (4 : Int32))), .val (.int (0 : Int32))] [(.ref a1), (.int (p2 + (0 : Int32))), (.ref pa)])) _
    exact k
  obtain ⟨T16, X16, e16, st16⟩ := getF X13 hx hZ hown (host := "") (Or.inl (hw _ (List.mem_of_getElem? (i := 11) rfl))) Via.refl e13 F11_0 (g := (mkF m 98 #[.val (.ref a1), .val (.int p1), .val (.int p2), .val (.int p3), .val (.int (3 : Int32)), .val (.ref oa), .val (.int (p3 * (4 : Int32))), .val (.int (0 : Int32))] [(.ref a1), (.int (p2 + (0 : Int32))), (.ref pa)])) rfl rfl (hb hby d3_98)
  have pre17 : ∀ t, Steps p.tables e below (T16.setTop (mkF m 101 #[.val (.ref a1), .val (.int p1), .val (.int p2), .val (.int p3), .val (.int (3 : Int32)), .val (.ref oa), .val (.int (p3 * (4 : Int32))), .val (.int (0 : Int32))] [(.int (4 : Int32)), (.int (p2 + (0 : Int32))), (.ref pa)])) t → Steps p.tables e below (s₁.setTop (entryFrame m #[(.ref a1), (.int p1), (.int p2), (.int p3), (.int (3 : Int32))] 8)) t := fun t k => pre15 t (st16 t k)
  have s0 := own_sp0 hx0 hx3 hy0 hy2
  have d0 := own_dp0 hw1 hw4
  have sc0 := own_clamp s0
  have dc0 := own_clamp d0
  have pre19 : ∀ t, Steps p.tables e below (T16.setTop (mkF m 115 #[.val (.ref a1), .val (.int p1), .val (.int p2), .val (.int p3), .val (.int (3 : Int32)), .val (.ref oa), .val (.int (p3 * (4 : Int32))), .val (.int (0 : Int32))] [(.int (p3 * (4 : Int32))), (.int ((0 : Int32) * (p3 * (4 : Int32)))), (.ref oa), (.int ((((p2 + (0 : Int32)) * (4 : Int32)) + p1) * (4 : Int32))), (.ref pa)])) t → Steps p.tables e below (s₁.setTop (entryFrame m #[(.ref a1), (.int p1), (.int p2), (.int p3), (.int (3 : Int32))] 8)) t := by
    intro t k
    refine pre17 t ?_
    refine XS.imul X16.here hx rfl (hb hby d3_101) rfl ?_
    show Steps p.tables e below (T16.setTop (mkF m 102 #[.val (.ref a1), .val (.int p1), .val (.int p2), .val (.int p3), .val (.int (3 : Int32)), .val (.ref oa), .val (.int (p3 * (4 : Int32))), .val (.int (0 : Int32))] [(.int ((p2 + (0 : Int32)) * (4 : Int32))), (.ref pa)])) _
    refine XS.iloadN X16.here hx rfl (hb hby d3_102) rfl ?_
    show Steps p.tables e below (T16.setTop (mkF m 103 #[.val (.ref a1), .val (.int p1), .val (.int p2), .val (.int p3), .val (.int (3 : Int32)), .val (.ref oa), .val (.int (p3 * (4 : Int32))), .val (.int (0 : Int32))] [(.int p1), (.int ((p2 + (0 : Int32)) * (4 : Int32))), (.ref pa)])) _
    refine XS.iadd X16.here hx rfl (hb hby d3_103) rfl ?_
    show Steps p.tables e below (T16.setTop (mkF m 104 #[.val (.ref a1), .val (.int p1), .val (.int p2), .val (.int p3), .val (.int (3 : Int32)), .val (.ref oa), .val (.int (p3 * (4 : Int32))), .val (.int (0 : Int32))] [(.int (((p2 + (0 : Int32)) * (4 : Int32)) + p1)), (.ref pa)])) _
    refine XS.iconst X16.here hx rfl (hb hby d3_104) ?_
    show Steps p.tables e below (T16.setTop (mkF m 105 #[.val (.ref a1), .val (.int p1), .val (.int p2), .val (.int p3), .val (.int (3 : Int32)), .val (.ref oa), .val (.int (p3 * (4 : Int32))), .val (.int (0 : Int32))] [(.int (4 : Int32)), (.int (((p2 + (0 : Int32)) * (4 : Int32)) + p1)), (.ref pa)])) _
    refine XS.imul X16.here hx rfl (hb hby d3_105) rfl ?_
    show Steps p.tables e below (T16.setTop (mkF m 106 #[.val (.ref a1), .val (.int p1), .val (.int p2), .val (.int p3), .val (.int (3 : Int32)), .val (.ref oa), .val (.int (p3 * (4 : Int32))), .val (.int (0 : Int32))] [(.int ((((p2 + (0 : Int32)) * (4 : Int32)) + p1) * (4 : Int32))), (.ref pa)])) _
    refine XS.aload X16.here hx rfl (hb hby d3_106) rfl rfl ?_
    show Steps p.tables e below (T16.setTop (mkF m 108 #[.val (.ref a1), .val (.int p1), .val (.int p2), .val (.int p3), .val (.int (3 : Int32)), .val (.ref oa), .val (.int (p3 * (4 : Int32))), .val (.int (0 : Int32))] [(.ref oa), (.int ((((p2 + (0 : Int32)) * (4 : Int32)) + p1) * (4 : Int32))), (.ref pa)])) _
    refine XS.iload X16.here hx rfl (hb hby d3_108) rfl ?_
    show Steps p.tables e below (T16.setTop (mkF m 110 #[.val (.ref a1), .val (.int p1), .val (.int p2), .val (.int p3), .val (.int (3 : Int32)), .val (.ref oa), .val (.int (p3 * (4 : Int32))), .val (.int (0 : Int32))] [(.int (0 : Int32)), (.ref oa), (.int ((((p2 + (0 : Int32)) * (4 : Int32)) + p1) * (4 : Int32))), (.ref pa)])) _
    refine XS.iload X16.here hx rfl (hb hby d3_110) rfl ?_
    show Steps p.tables e below (T16.setTop (mkF m 112 #[.val (.ref a1), .val (.int p1), .val (.int p2), .val (.int p3), .val (.int (3 : Int32)), .val (.ref oa), .val (.int (p3 * (4 : Int32))), .val (.int (0 : Int32))] [(.int (p3 * (4 : Int32))), (.int (0 : Int32)), (.ref oa), (.int ((((p2 + (0 : Int32)) * (4 : Int32)) + p1) * (4 : Int32))), (.ref pa)])) _
    refine XS.imul X16.here hx rfl (hb hby d3_112) rfl ?_
    show Steps p.tables e below (T16.setTop (mkF m 113 #[.val (.ref a1), .val (.int p1), .val (.int p2), .val (.int p3), .val (.int (3 : Int32)), .val (.ref oa), .val (.int (p3 * (4 : Int32))), .val (.int (0 : Int32))] [(.int ((0 : Int32) * (p3 * (4 : Int32)))), (.ref oa), (.int ((((p2 + (0 : Int32)) * (4 : Int32)) + p1) * (4 : Int32))), (.ref pa)])) _
    refine XS.iload X16.here hx rfl (hb hby d3_113) rfl ?_
    show Steps p.tables e below (T16.setTop (mkF m 115 #[.val (.ref a1), .val (.int p1), .val (.int p2), .val (.int p3), .val (.int (3 : Int32)), .val (.ref oa), .val (.int (p3 * (4 : Int32))), .val (.int (0 : Int32))] [(.int (p3 * (4 : Int32))), (.int ((0 : Int32) * (p3 * (4 : Int32)))), (.ref oa), (.int ((((p2 + (0 : Int32)) * (4 : Int32)) + p1) * (4 : Int32))), (.ref pa)])) _
    exact k
  obtain ⟨T20, h20, L20, X20, e20, N20, Kc20, Vc20, st20⟩ := cpA X16 hx hZ hown (hw _ (List.mem_of_getElem? (i := 34) rfl)) (hw _ (List.mem_of_getElem? (i := 37) rfl)) (hw _ (List.mem_of_getElem? (i := 35) rfl)) (hw _ (List.mem_of_getElem? (i := 36) rfl)) e16 V11_0 V9 (Or.inl ⟨rfl, rfl⟩) (own_nz s0 (by omega)) (own_nz d0 (by omega)) (own_nz hl4 (by omega)) (by rw [sc0, hlc]; show _ ≤ 48; omega) (by rw [dc0, hlc, hnc]; omega) rfl (by rw [dc0, hlc, R0.1]; omega) N0 g_oa (g := (mkF m 115 #[.val (.ref a1), .val (.int p1), .val (.int p2), .val (.int p3), .val (.int (3 : Int32)), .val (.ref oa), .val (.int (p3 * (4 : Int32))), .val (.int (0 : Int32))] [(.int (p3 * (4 : Int32))), (.int ((0 : Int32) * (p3 * (4 : Int32)))), (.ref oa), (.int ((((p2 + (0 : Int32)) * (4 : Int32)) + p1) * (4 : Int32))), (.ref pa)])) rfl (by rw [hml]; rfl) (rest := []) rfl (hb hby d3_115) (by decide) (W := 0) (by show 2 * 0 + _ ≤ _; exact Nat.le_of_eq rfl) (by decide)
  have pre21 : ∀ t, Steps p.tables e below (T20.setTop (mkF m 118 #[.val (.ref a1), .val (.int p1), .val (.int p2), .val (.int p3), .val (.int (3 : Int32)), .val (.ref oa), .val (.int (p3 * (4 : Int32))), .val (.int (0 : Int32))] [])) t → Steps p.tables e below (s₁.setTop (entryFrame m #[(.ref a1), (.int p1), (.int p2), (.int p3), (.int (3 : Int32))] 8)) t := fun t k => pre19 t (st20 t k)
  have F22_0 : Fld Z h20 a1 "com/example/facetwork/facetwork/image/RgbaImage" "width" "I" (.int (4 : Int32)) := (F11_0.keep Kc20 (ninS ne_a1_oa nin0))
  have F22_1 : Fld Z h20 a1 "com/example/facetwork/facetwork/image/RgbaImage" "height" "I" (.int (3 : Int32)) := (F11_1.keep Kc20 (ninS ne_a1_oa nin0))
  have F22_2 : Fld Z h20 a1 "com/example/facetwork/facetwork/image/RgbaImage" "pixels" "[B" (.ref pa) := (F11_2.keep Kc20 (ninS ne_a1_oa nin0))
  have E22_0 : Exa Z h20 oa "[B" := (Ea9.keep Kc20)
  have V22_0 : Arv Z h20 pa kk .byte (48 : Int32) vs (.int (0 : Int32)) := (V11_0.keep Kc20 (ninS ne_pa_oa nin0))
  have K22 : Keep h0 h20 [] := (K11.trans Kc20 (allS (P := fun x => x ∈ [] ∨ h0.size ≤ x) (Or.inr s_oa) all0))
  have Z22 : n0 ≤ h20.size := (Nat.le_trans Z11 Kc20.1)
  have R1 := own_step R0 sc0 dc0 hlc (by rw [dc0, hlc]; omega)
  obtain ⟨u1, hu1⟩ : ∃ u, u = ((List.replicate 48 (.int (0 : Int32))).take ((0 : Int32) * (p3 * (4 : Int32))).toNatClampNeg ++ (List.range (p3 * (4 : Int32)).toNatClampNeg).map (fun i => vs.getD (((((p2 + (0 : Int32)) * (4 : Int32)) + p1) * (4 : Int32)).toNatClampNeg + i) (.int (0 : Int32))) ++ (List.replicate 48 (.int (0 : Int32))).drop (((0 : Int32) * (p3 * (4 : Int32))).toNatClampNeg + (p3 * (4 : Int32)).toNatClampNeg)) := ⟨_, rfl⟩
  have Vu1 : Arv Z h20 oa cA9 .byte ((p3 * (3 : Int32)) * (4 : Int32)) u1 (.int (0 : Int32)) := by rw [hu1]; exact Vc20
  rw [← hu1] at R1
  have pre23 : ∀ t, Steps p.tables e below (T20.setTop (mkF m 90 #[.val (.ref a1), .val (.int p1), .val (.int p2), .val (.int p3), .val (.int (3 : Int32)), .val (.ref oa), .val (.int (p3 * (4 : Int32))), .val (.int ((0 : Int32) + (1 : Int32)))] [(.ref a1)])) t → Steps p.tables e below (s₁.setTop (entryFrame m #[(.ref a1), (.int p1), (.int p2), (.int p3), (.int (3 : Int32))] 8)) t := by
    intro t k
    refine pre21 t ?_
    refine XS.iinc X20.here hx rfl (hb hby d3_118) rfl (l' := #[.val (.ref a1), .val (.int p1), .val (.int p2), .val (.int p3), .val (.int (3 : Int32)), .val (.ref oa), .val (.int (p3 * (4 : Int32))), .val (.int ((0 : Int32) + (1 : Int32)))]) rfl ?_
    show Steps p.tables e below (T20.setTop (mkF m 121 #[.val (.ref a1), .val (.int p1), .val (.int p2), .val (.int p3), .val (.int (3 : Int32)), .val (.ref oa), .val (.int (p3 * (4 : Int32))), .val (.int ((0 : Int32) + (1 : Int32)))] [])) _
    refine XS.goto X20.here hx rfl (pc0 := 121) (pc' := 82) rfl (hb hby d3_121) (by decide) (by decide) ?_
    show Steps p.tables e below (T20.setTop (mkF m 82 #[.val (.ref a1), .val (.int p1), .val (.int p2), .val (.int p3), .val (.int (3 : Int32)), .val (.ref oa), .val (.int (p3 * (4 : Int32))), .val (.int ((0 : Int32) + (1 : Int32)))] [])) _
    refine XS.iload X20.here hx rfl (hb hby d3_82) rfl ?_
    show Steps p.tables e below (T20.setTop (mkF m 84 #[.val (.ref a1), .val (.int p1), .val (.int p2), .val (.int p3), .val (.int (3 : Int32)), .val (.ref oa), .val (.int (p3 * (4 : Int32))), .val (.int ((0 : Int32) + (1 : Int32)))] [(.int ((0 : Int32) + (1 : Int32)))])) _
    refine XS.iload X20.here hx rfl (hb hby d3_84) rfl ?_
    show Steps p.tables e below (T20.setTop (mkF m 86 #[.val (.ref a1), .val (.int p1), .val (.int p2), .val (.int p3), .val (.int (3 : Int32)), .val (.ref oa), .val (.int (p3 * (4 : Int32))), .val (.int ((0 : Int32) + (1 : Int32)))] [(.int (3 : Int32)), (.int ((0 : Int32) + (1 : Int32)))])) _
    refine XS.icmpNo X20.here hx rfl (hb hby d3_86) rfl (XT.ii_ge_f (by decide)) ?_
    show Steps p.tables e below (T20.setTop (mkF m 89 #[.val (.ref a1), .val (.int p1), .val (.int p2), .val (.int p3), .val (.int (3 : Int32)), .val (.ref oa), .val (.int (p3 * (4 : Int32))), .val (.int ((0 : Int32) + (1 : Int32)))] [])) _
    refine XS.aloadN X20.here hx rfl (hb hby d3_89) rfl rfl ?_
    show Steps p.tables e below (T20.setTop (mkF m 90 #[.val (.ref a1), .val (.int p1), .val (.int p2), .val (.int p3), .val (.int (3 : Int32)), .val (.ref oa), .val (.int (p3 * (4 : Int32))), .val (.int ((0 : Int32) + (1 : Int32)))] [(.ref a1)])) _
    exact k
  obtain ⟨T24, X24, e24, st24⟩ := getF X20 hx hZ hown (host := "") (Or.inl (hw _ (List.mem_of_getElem? (i := 24) rfl))) Via.refl e20 F22_2 (g := (mkF m 90 #[.val (.ref a1), .val (.int p1), .val (.int p2), .val (.int p3), .val (.int (3 : Int32)), .val (.ref oa), .val (.int (p3 * (4 : Int32))), .val (.int ((0 : Int32) + (1 : Int32)))] [(.ref a1)])) rfl rfl (hb hby d3_90)
  have pre25 : ∀ t, Steps p.tables e below (T24.setTop (mkF m 93 #[.val (.ref a1), .val (.int p1), .val (.int p2), .val (.int p3), .val (.int (3 : Int32)), .val (.ref oa), .val (.int (p3 * (4 : Int32))), .val (.int ((0 : Int32) + (1 : Int32)))] [(.ref pa)])) t → Steps p.tables e below (s₁.setTop (entryFrame m #[(.ref a1), (.int p1), (.int p2), (.int p3), (.int (3 : Int32))] 8)) t := fun t k => pre23 t (st24 t k)
  have pre26 : ∀ t, Steps p.tables e below (T24.setTop (mkF m 98 #[.val (.ref a1), .val (.int p1), .val (.int p2), .val (.int p3), .val (.int (3 : Int32)), .val (.ref oa), .val (.int (p3 * (4 : Int32))), .val (.int ((0 : Int32) + (1 : Int32)))] [(.ref a1), (.int (p2 + ((0 : Int32) + (1 : Int32)))), (.ref pa)])) t → Steps p.tables e below (s₁.setTop (entryFrame m #[(.ref a1), (.int p1), (.int p2), (.int p3), (.int (3 : Int32))] 8)) t := by
    intro t k
    refine pre25 t ?_
    refine XS.iloadN X24.here hx rfl (hb hby d3_93) rfl ?_
    show Steps p.tables e below (T24.setTop (mkF m 94 #[.val (.ref a1), .val (.int p1), .val (.int p2), .val (.int p3), .val (.int (3 : Int32)), .val (.ref oa), .val (.int (p3 * (4 : Int32))), .val (.int ((0 : Int32) + (1 : Int32)))] [(.int p2), (.ref pa)])) _
    refine XS.iload X24.here hx rfl (hb hby d3_94) rfl ?_
    show Steps p.tables e below (T24.setTop (mkF m 96 #[.val (.ref a1), .val (.int p1), .val (.int p2), .val (.int p3), .val (.int (3 : Int32)), .val (.ref oa), .val (.int (p3 * (4 : Int32))), .val (.int ((0 : Int32) + (1 : Int32)))] [(.int ((0 : Int32) + (1 : Int32))), (.int p2), (.ref pa)])) _
    refine XS.iadd X24.here hx rfl (hb hby d3_96) rfl ?_
    show Steps p.tables e below (T24.setTop (mkF m 97 #[.val (.ref a1), .val (.int p1), .val (.int p2), .val (.int p3), .val (.int (3 : Int32)), .val (.ref oa), .val (.int (p3 * (4 : Int32))), .val (.int ((0 : Int32) + (1 : Int32)))] [(.int (p2 + ((0 : Int32) + (1 : Int32)))), (.ref pa)])) _
    refine XS.aloadN X24.here hx rfl (hb hby d3_97) rfl rfl ?_
    show Steps p.tables e below (T24.setTop (mkF m 98 #[.val (.ref a1), .val (.int p1), .val (.int p2), .val (.int p3), .val (.int (3 : Int32)), .val (.ref oa), .val (.int (p3 * (4 : Int32))), .val (.int ((0 : Int32) + (1 : Int32)))] [(.ref a1), (.int (p2 + ((0 : Int32) + (1 : Int32)))), (.ref pa)])) _
    exact k
  obtain ⟨T27, X27, e27, st27⟩ := getF X24 hx hZ hown (host := "") (Or.inl (hw _ (List.mem_of_getElem? (i := 11) rfl))) Via.refl e24 F22_0 (g := (mkF m 98 #[.val (.ref a1), .val (.int p1), .val (.int p2), .val (.int p3), .val (.int (3 : Int32)), .val (.ref oa), .val (.int (p3 * (4 : Int32))), .val (.int ((0 : Int32) + (1 : Int32)))] [(.ref a1), (.int (p2 + ((0 : Int32) + (1 : Int32)))), (.ref pa)])) rfl rfl (hb hby d3_98)
  have pre28 : ∀ t, Steps p.tables e below (T27.setTop (mkF m 101 #[.val (.ref a1), .val (.int p1), .val (.int p2), .val (.int p3), .val (.int (3 : Int32)), .val (.ref oa), .val (.int (p3 * (4 : Int32))), .val (.int ((0 : Int32) + (1 : Int32)))] [(.int (4 : Int32)), (.int (p2 + ((0 : Int32) + (1 : Int32)))), (.ref pa)])) t → Steps p.tables e below (s₁.setTop (entryFrame m #[(.ref a1), (.int p1), (.int p2), (.int p3), (.int (3 : Int32))] 8)) t := fun t k => pre26 t (st27 t k)
  have s1 := own_sp1 hx0 hx3 hy0 hy2
  have d1 := own_dp1 hw1 hw4
  have sc1 := own_clamp s1
  have dc1 := own_clamp d1
  have pre30 : ∀ t, Steps p.tables e below (T27.setTop (mkF m 115 #[.val (.ref a1), .val (.int p1), .val (.int p2), .val (.int p3), .val (.int (3 : Int32)), .val (.ref oa), .val (.int (p3 * (4 : Int32))), .val (.int ((0 : Int32) + (1 : Int32)))] [(.int (p3 * (4 : Int32))), (.int (((0 : Int32) + (1 : Int32)) * (p3 * (4 : Int32)))), (.ref oa), (.int ((((p2 + ((0 : Int32) + (1 : Int32))) * (4 : Int32)) + p1) * (4 : Int32))), (.ref pa)])) t → Steps p.tables e below (s₁.setTop (entryFrame m #[(.ref a1), (.int p1), (.int p2), (.int p3), (.int (3 : Int32))] 8)) t := by
    intro t k
    refine pre28 t ?_
    refine XS.imul X27.here hx rfl (hb hby d3_101) rfl ?_
    show Steps p.tables e below (T27.setTop (mkF m 102 #[.val (.ref a1), .val (.int p1), .val (.int p2), .val (.int p3), .val (.int (3 : Int32)), .val (.ref oa), .val (.int (p3 * (4 : Int32))), .val (.int ((0 : Int32) + (1 : Int32)))] [(.int ((p2 + ((0 : Int32) + (1 : Int32))) * (4 : Int32))), (.ref pa)])) _
    refine XS.iloadN X27.here hx rfl (hb hby d3_102) rfl ?_
    show Steps p.tables e below (T27.setTop (mkF m 103 #[.val (.ref a1), .val (.int p1), .val (.int p2), .val (.int p3), .val (.int (3 : Int32)), .val (.ref oa), .val (.int (p3 * (4 : Int32))), .val (.int ((0 : Int32) + (1 : Int32)))] [(.int p1), (.int ((p2 + ((0 : Int32) + (1 : Int32))) * (4 : Int32))), (.ref pa)])) _
    refine XS.iadd X27.here hx rfl (hb hby d3_103) rfl ?_
    show Steps p.tables e below (T27.setTop (mkF m 104 #[.val (.ref a1), .val (.int p1), .val (.int p2), .val (.int p3), .val (.int (3 : Int32)), .val (.ref oa), .val (.int (p3 * (4 : Int32))), .val (.int ((0 : Int32) + (1 : Int32)))] [(.int (((p2 + ((0 : Int32) + (1 : Int32))) * (4 : Int32)) + p1)), (.ref pa)])) _
    refine XS.iconst X27.here hx rfl (hb hby d3_104) ?_
    show Steps p.tables e below (T27.setTop (mkF m 105 #[.val (.ref a1), .val (.int p1), .val (.int p2), .val (.int p3), .val (.int (3 : Int32)), .val (.ref oa), .val (.int (p3 * (4 : Int32))), .val (.int ((0 : Int32) + (1 : Int32)))] [(.int (4 : Int32)), (.int (((p2 + ((0 : Int32) + (1 : Int32))) * (4 : Int32)) + p1)), (.ref pa)])) _
    refine XS.imul X27.here hx rfl (hb hby d3_105) rfl ?_
    show Steps p.tables e below (T27.setTop (mkF m 106 #[.val (.ref a1), .val (.int p1), .val (.int p2), .val (.int p3), .val (.int (3 : Int32)), .val (.ref oa), .val (.int (p3 * (4 : Int32))), .val (.int ((0 : Int32) + (1 : Int32)))] [(.int ((((p2 + ((0 : Int32) + (1 : Int32))) * (4 : Int32)) + p1) * (4 : Int32))), (.ref pa)])) _
    refine XS.aload X27.here hx rfl (hb hby d3_106) rfl rfl ?_
    show Steps p.tables e below (T27.setTop (mkF m 108 #[.val (.ref a1), .val (.int p1), .val (.int p2), .val (.int p3), .val (.int (3 : Int32)), .val (.ref oa), .val (.int (p3 * (4 : Int32))), .val (.int ((0 : Int32) + (1 : Int32)))] [(.ref oa), (.int ((((p2 + ((0 : Int32) + (1 : Int32))) * (4 : Int32)) + p1) * (4 : Int32))), (.ref pa)])) _
    refine XS.iload X27.here hx rfl (hb hby d3_108) rfl ?_
    show Steps p.tables e below (T27.setTop (mkF m 110 #[.val (.ref a1), .val (.int p1), .val (.int p2), .val (.int p3), .val (.int (3 : Int32)), .val (.ref oa), .val (.int (p3 * (4 : Int32))), .val (.int ((0 : Int32) + (1 : Int32)))] [(.int ((0 : Int32) + (1 : Int32))), (.ref oa), (.int ((((p2 + ((0 : Int32) + (1 : Int32))) * (4 : Int32)) + p1) * (4 : Int32))), (.ref pa)])) _
    refine XS.iload X27.here hx rfl (hb hby d3_110) rfl ?_
    show Steps p.tables e below (T27.setTop (mkF m 112 #[.val (.ref a1), .val (.int p1), .val (.int p2), .val (.int p3), .val (.int (3 : Int32)), .val (.ref oa), .val (.int (p3 * (4 : Int32))), .val (.int ((0 : Int32) + (1 : Int32)))] [(.int (p3 * (4 : Int32))), (.int ((0 : Int32) + (1 : Int32))), (.ref oa), (.int ((((p2 + ((0 : Int32) + (1 : Int32))) * (4 : Int32)) + p1) * (4 : Int32))), (.ref pa)])) _
    refine XS.imul X27.here hx rfl (hb hby d3_112) rfl ?_
    show Steps p.tables e below (T27.setTop (mkF m 113 #[.val (.ref a1), .val (.int p1), .val (.int p2), .val (.int p3), .val (.int (3 : Int32)), .val (.ref oa), .val (.int (p3 * (4 : Int32))), .val (.int ((0 : Int32) + (1 : Int32)))] [(.int (((0 : Int32) + (1 : Int32)) * (p3 * (4 : Int32)))), (.ref oa), (.int ((((p2 + ((0 : Int32) + (1 : Int32))) * (4 : Int32)) + p1) * (4 : Int32))), (.ref pa)])) _
    refine XS.iload X27.here hx rfl (hb hby d3_113) rfl ?_
    show Steps p.tables e below (T27.setTop (mkF m 115 #[.val (.ref a1), .val (.int p1), .val (.int p2), .val (.int p3), .val (.int (3 : Int32)), .val (.ref oa), .val (.int (p3 * (4 : Int32))), .val (.int ((0 : Int32) + (1 : Int32)))] [(.int (p3 * (4 : Int32))), (.int (((0 : Int32) + (1 : Int32)) * (p3 * (4 : Int32)))), (.ref oa), (.int ((((p2 + ((0 : Int32) + (1 : Int32))) * (4 : Int32)) + p1) * (4 : Int32))), (.ref pa)])) _
    exact k
  obtain ⟨T31, h31, L31, X31, e31, N31, Kc31, Vc31, st31⟩ := cpA X27 hx hZ hown (hw _ (List.mem_of_getElem? (i := 34) rfl)) (hw _ (List.mem_of_getElem? (i := 37) rfl)) (hw _ (List.mem_of_getElem? (i := 35) rfl)) (hw _ (List.mem_of_getElem? (i := 36) rfl)) e27 V22_0 Vu1 (Or.inl ⟨rfl, rfl⟩) (own_nz s1 (by omega)) (own_nz d1 (by omega)) (own_nz hl4 (by omega)) (by rw [sc1, hlc]; show _ ≤ 48; omega) (by rw [dc1, hlc, hnc]; omega) rfl (by rw [dc1, hlc, R1.1]; omega) N20 g_oa (g := (mkF m 115 #[.val (.ref a1), .val (.int p1), .val (.int p2), .val (.int p3), .val (.int (3 : Int32)), .val (.ref oa), .val (.int (p3 * (4 : Int32))), .val (.int ((0 : Int32) + (1 : Int32)))] [(.int (p3 * (4 : Int32))), (.int (((0 : Int32) + (1 : Int32)) * (p3 * (4 : Int32)))), (.ref oa), (.int ((((p2 + ((0 : Int32) + (1 : Int32))) * (4 : Int32)) + p1) * (4 : Int32))), (.ref pa)])) rfl (by rw [hml]; rfl) (rest := []) rfl (hb hby d3_115) (by decide) (W := 0) (by show 2 * 0 + _ ≤ _; exact Nat.le_of_eq rfl) (by decide)
  have pre32 : ∀ t, Steps p.tables e below (T31.setTop (mkF m 118 #[.val (.ref a1), .val (.int p1), .val (.int p2), .val (.int p3), .val (.int (3 : Int32)), .val (.ref oa), .val (.int (p3 * (4 : Int32))), .val (.int ((0 : Int32) + (1 : Int32)))] [])) t → Steps p.tables e below (s₁.setTop (entryFrame m #[(.ref a1), (.int p1), (.int p2), (.int p3), (.int (3 : Int32))] 8)) t := fun t k => pre30 t (st31 t k)
  have F33_0 : Fld Z h31 a1 "com/example/facetwork/facetwork/image/RgbaImage" "width" "I" (.int (4 : Int32)) := (F22_0.keep Kc31 (ninS ne_a1_oa nin0))
  have F33_1 : Fld Z h31 a1 "com/example/facetwork/facetwork/image/RgbaImage" "height" "I" (.int (3 : Int32)) := (F22_1.keep Kc31 (ninS ne_a1_oa nin0))
  have F33_2 : Fld Z h31 a1 "com/example/facetwork/facetwork/image/RgbaImage" "pixels" "[B" (.ref pa) := (F22_2.keep Kc31 (ninS ne_a1_oa nin0))
  have E33_0 : Exa Z h31 oa "[B" := (E22_0.keep Kc31)
  have V33_0 : Arv Z h31 pa kk .byte (48 : Int32) vs (.int (0 : Int32)) := (V22_0.keep Kc31 (ninS ne_pa_oa nin0))
  have K33 : Keep h0 h31 [] := (K22.trans Kc31 (allS (P := fun x => x ∈ [] ∨ h0.size ≤ x) (Or.inr s_oa) all0))
  have Z33 : n0 ≤ h31.size := (Nat.le_trans Z22 Kc31.1)
  have R2 := own_step R1 sc1 dc1 hlc (by rw [dc1, hlc]; omega)
  obtain ⟨u2, hu2⟩ : ∃ u, u = (u1.take (((0 : Int32) + (1 : Int32)) * (p3 * (4 : Int32))).toNatClampNeg ++ (List.range (p3 * (4 : Int32)).toNatClampNeg).map (fun i => vs.getD (((((p2 + ((0 : Int32) + (1 : Int32))) * (4 : Int32)) + p1) * (4 : Int32)).toNatClampNeg + i) (.int (0 : Int32))) ++ u1.drop ((((0 : Int32) + (1 : Int32)) * (p3 * (4 : Int32))).toNatClampNeg + (p3 * (4 : Int32)).toNatClampNeg)) := ⟨_, rfl⟩
  have Vu2 : Arv Z h31 oa cA9 .byte ((p3 * (3 : Int32)) * (4 : Int32)) u2 (.int (0 : Int32)) := by rw [hu2]; exact Vc31
  rw [← hu2] at R2
  have pre34 : ∀ t, Steps p.tables e below (T31.setTop (mkF m 90 #[.val (.ref a1), .val (.int p1), .val (.int p2), .val (.int p3), .val (.int (3 : Int32)), .val (.ref oa), .val (.int (p3 * (4 : Int32))), .val (.int (((0 : Int32) + (1 : Int32)) + (1 : Int32)))] [(.ref a1)])) t → Steps p.tables e below (s₁.setTop (entryFrame m #[(.ref a1), (.int p1), (.int p2), (.int p3), (.int (3 : Int32))] 8)) t := by
    intro t k
    refine pre32 t ?_
    refine XS.iinc X31.here hx rfl (hb hby d3_118) rfl (l' := #[.val (.ref a1), .val (.int p1), .val (.int p2), .val (.int p3), .val (.int (3 : Int32)), .val (.ref oa), .val (.int (p3 * (4 : Int32))), .val (.int (((0 : Int32) + (1 : Int32)) + (1 : Int32)))]) rfl ?_
    show Steps p.tables e below (T31.setTop (mkF m 121 #[.val (.ref a1), .val (.int p1), .val (.int p2), .val (.int p3), .val (.int (3 : Int32)), .val (.ref oa), .val (.int (p3 * (4 : Int32))), .val (.int (((0 : Int32) + (1 : Int32)) + (1 : Int32)))] [])) _
    refine XS.goto X31.here hx rfl (pc0 := 121) (pc' := 82) rfl (hb hby d3_121) (by decide) (by decide) ?_
    show Steps p.tables e below (T31.setTop (mkF m 82 #[.val (.ref a1), .val (.int p1), .val (.int p2), .val (.int p3), .val (.int (3 : Int32)), .val (.ref oa), .val (.int (p3 * (4 : Int32))), .val (.int (((0 : Int32) + (1 : Int32)) + (1 : Int32)))] [])) _
    refine XS.iload X31.here hx rfl (hb hby d3_82) rfl ?_
    show Steps p.tables e below (T31.setTop (mkF m 84 #[.val (.ref a1), .val (.int p1), .val (.int p2), .val (.int p3), .val (.int (3 : Int32)), .val (.ref oa), .val (.int (p3 * (4 : Int32))), .val (.int (((0 : Int32) + (1 : Int32)) + (1 : Int32)))] [(.int (((0 : Int32) + (1 : Int32)) + (1 : Int32)))])) _
    refine XS.iload X31.here hx rfl (hb hby d3_84) rfl ?_
    show Steps p.tables e below (T31.setTop (mkF m 86 #[.val (.ref a1), .val (.int p1), .val (.int p2), .val (.int p3), .val (.int (3 : Int32)), .val (.ref oa), .val (.int (p3 * (4 : Int32))), .val (.int (((0 : Int32) + (1 : Int32)) + (1 : Int32)))] [(.int (3 : Int32)), (.int (((0 : Int32) + (1 : Int32)) + (1 : Int32)))])) _
    refine XS.icmpNo X31.here hx rfl (hb hby d3_86) rfl (XT.ii_ge_f (by decide)) ?_
    show Steps p.tables e below (T31.setTop (mkF m 89 #[.val (.ref a1), .val (.int p1), .val (.int p2), .val (.int p3), .val (.int (3 : Int32)), .val (.ref oa), .val (.int (p3 * (4 : Int32))), .val (.int (((0 : Int32) + (1 : Int32)) + (1 : Int32)))] [])) _
    refine XS.aloadN X31.here hx rfl (hb hby d3_89) rfl rfl ?_
    show Steps p.tables e below (T31.setTop (mkF m 90 #[.val (.ref a1), .val (.int p1), .val (.int p2), .val (.int p3), .val (.int (3 : Int32)), .val (.ref oa), .val (.int (p3 * (4 : Int32))), .val (.int (((0 : Int32) + (1 : Int32)) + (1 : Int32)))] [(.ref a1)])) _
    exact k
  obtain ⟨T35, X35, e35, st35⟩ := getF X31 hx hZ hown (host := "") (Or.inl (hw _ (List.mem_of_getElem? (i := 24) rfl))) Via.refl e31 F33_2 (g := (mkF m 90 #[.val (.ref a1), .val (.int p1), .val (.int p2), .val (.int p3), .val (.int (3 : Int32)), .val (.ref oa), .val (.int (p3 * (4 : Int32))), .val (.int (((0 : Int32) + (1 : Int32)) + (1 : Int32)))] [(.ref a1)])) rfl rfl (hb hby d3_90)
  have pre36 : ∀ t, Steps p.tables e below (T35.setTop (mkF m 93 #[.val (.ref a1), .val (.int p1), .val (.int p2), .val (.int p3), .val (.int (3 : Int32)), .val (.ref oa), .val (.int (p3 * (4 : Int32))), .val (.int (((0 : Int32) + (1 : Int32)) + (1 : Int32)))] [(.ref pa)])) t → Steps p.tables e below (s₁.setTop (entryFrame m #[(.ref a1), (.int p1), (.int p2), (.int p3), (.int (3 : Int32))] 8)) t := fun t k => pre34 t (st35 t k)
  have pre37 : ∀ t, Steps p.tables e below (T35.setTop (mkF m 98 #[.val (.ref a1), .val (.int p1), .val (.int p2), .val (.int p3), .val (.int (3 : Int32)), .val (.ref oa), .val (.int (p3 * (4 : Int32))), .val (.int (((0 : Int32) + (1 : Int32)) + (1 : Int32)))] [(.ref a1), (.int (p2 + (((0 : Int32) + (1 : Int32)) + (1 : Int32)))), (.ref pa)])) t → Steps p.tables e below (s₁.setTop (entryFrame m #[(.ref a1), (.int p1), (.int p2), (.int p3), (.int (3 : Int32))] 8)) t := by
    intro t k
    refine pre36 t ?_
    refine XS.iloadN X35.here hx rfl (hb hby d3_93) rfl ?_
    show Steps p.tables e below (T35.setTop (mkF m 94 #[.val (.ref a1), .val (.int p1), .val (.int p2), .val (.int p3), .val (.int (3 : Int32)), .val (.ref oa), .val (.int (p3 * (4 : Int32))), .val (.int (((0 : Int32) + (1 : Int32)) + (1 : Int32)))] [(.int p2), (.ref pa)])) _
    refine XS.iload X35.here hx rfl (hb hby d3_94) rfl ?_
    show Steps p.tables e below (T35.setTop (mkF m 96 #[.val (.ref a1), .val (.int p1), .val (.int p2), .val (.int p3), .val (.int (3 : Int32)), .val (.ref oa), .val (.int (p3 * (4 : Int32))), .val (.int (((0 : Int32) + (1 : Int32)) + (1 : Int32)))] [(.int (((0 : Int32) + (1 : Int32)) + (1 : Int32))), (.int p2), (.ref pa)])) _
    refine XS.iadd X35.here hx rfl (hb hby d3_96) rfl ?_
    show Steps p.tables e below (T35.setTop (mkF m 97 #[.val (.ref a1), .val (.int p1), .val (.int p2), .val (.int p3), .val (.int (3 : Int32)), .val (.ref oa), .val (.int (p3 * (4 : Int32))), .val (.int (((0 : Int32) + (1 : Int32)) + (1 : Int32)))] [(.int (p2 + (((0 : Int32) + (1 : Int32)) + (1 : Int32)))), (.ref pa)])) _
    refine XS.aloadN X35.here hx rfl (hb hby d3_97) rfl rfl ?_
    show Steps p.tables e below (T35.setTop (mkF m 98 #[.val (.ref a1), .val (.int p1), .val (.int p2), .val (.int p3), .val (.int (3 : Int32)), .val (.ref oa), .val (.int (p3 * (4 : Int32))), .val (.int (((0 : Int32) + (1 : Int32)) + (1 : Int32)))] [(.ref a1), (.int (p2 + (((0 : Int32) + (1 : Int32)) + (1 : Int32)))), (.ref pa)])) _
    exact k
  obtain ⟨T38, X38, e38, st38⟩ := getF X35 hx hZ hown (host := "") (Or.inl (hw _ (List.mem_of_getElem? (i := 11) rfl))) Via.refl e35 F33_0 (g := (mkF m 98 #[.val (.ref a1), .val (.int p1), .val (.int p2), .val (.int p3), .val (.int (3 : Int32)), .val (.ref oa), .val (.int (p3 * (4 : Int32))), .val (.int (((0 : Int32) + (1 : Int32)) + (1 : Int32)))] [(.ref a1), (.int (p2 + (((0 : Int32) + (1 : Int32)) + (1 : Int32)))), (.ref pa)])) rfl rfl (hb hby d3_98)
  have pre39 : ∀ t, Steps p.tables e below (T38.setTop (mkF m 101 #[.val (.ref a1), .val (.int p1), .val (.int p2), .val (.int p3), .val (.int (3 : Int32)), .val (.ref oa), .val (.int (p3 * (4 : Int32))), .val (.int (((0 : Int32) + (1 : Int32)) + (1 : Int32)))] [(.int (4 : Int32)), (.int (p2 + (((0 : Int32) + (1 : Int32)) + (1 : Int32)))), (.ref pa)])) t → Steps p.tables e below (s₁.setTop (entryFrame m #[(.ref a1), (.int p1), (.int p2), (.int p3), (.int (3 : Int32))] 8)) t := fun t k => pre37 t (st38 t k)
  have s2 := own_sp2 hx0 hx3 hy0 hy2
  have d2 := own_dp2 hw1 hw4
  have sc2 := own_clamp s2
  have dc2 := own_clamp d2
  have pre41 : ∀ t, Steps p.tables e below (T38.setTop (mkF m 115 #[.val (.ref a1), .val (.int p1), .val (.int p2), .val (.int p3), .val (.int (3 : Int32)), .val (.ref oa), .val (.int (p3 * (4 : Int32))), .val (.int (((0 : Int32) + (1 : Int32)) + (1 : Int32)))] [(.int (p3 * (4 : Int32))), (.int ((((0 : Int32) + (1 : Int32)) + (1 : Int32)) * (p3 * (4 : Int32)))), (.ref oa), (.int ((((p2 + (((0 : Int32) + (1 : Int32)) + (1 : Int32))) * (4 : Int32)) + p1) * (4 : Int32))), (.ref pa)])) t → Steps p.tables e below (s₁.setTop (entryFrame m #[(.ref a1), (.int p1), (.int p2), (.int p3), (.int (3 : Int32))] 8)) t := by
    intro t k
    refine pre39 t ?_
    refine XS.imul X38.here hx rfl (hb hby d3_101) rfl ?_
    show Steps p.tables e below (T38.setTop (mkF m 102 #[.val (.ref a1), .val (.int p1), .val (.int p2), .val (.int p3), .val (.int (3 : Int32)), .val (.ref oa), .val (.int (p3 * (4 : Int32))), .val (.int (((0 : Int32) + (1 : Int32)) + (1 : Int32)))] [(.int ((p2 + (((0 : Int32) + (1 : Int32)) + (1 : Int32))) * (4 : Int32))), (.ref pa)])) _
    refine XS.iloadN X38.here hx rfl (hb hby d3_102) rfl ?_
    show Steps p.tables e below (T38.setTop (mkF m 103 #[.val (.ref a1), .val (.int p1), .val (.int p2), .val (.int p3), .val (.int (3 : Int32)), .val (.ref oa), .val (.int (p3 * (4 : Int32))), .val (.int (((0 : Int32) + (1 : Int32)) + (1 : Int32)))] [(.int p1), (.int ((p2 + (((0 : Int32) + (1 : Int32)) + (1 : Int32))) * (4 : Int32))), (.ref pa)])) _
    refine XS.iadd X38.here hx rfl (hb hby d3_103) rfl ?_
    show Steps p.tables e below (T38.setTop (mkF m 104 #[.val (.ref a1), .val (.int p1), .val (.int p2), .val (.int p3), .val (.int (3 : Int32)), .val (.ref oa), .val (.int (p3 * (4 : Int32))), .val (.int (((0 : Int32) + (1 : Int32)) + (1 : Int32)))] [(.int (((p2 + (((0 : Int32) + (1 : Int32)) + (1 : Int32))) * (4 : Int32)) + p1)), (.ref pa)])) _
    refine XS.iconst X38.here hx rfl (hb hby d3_104) ?_
    show Steps p.tables e below (T38.setTop (mkF m 105 #[.val (.ref a1), .val (.int p1), .val (.int p2), .val (.int p3), .val (.int (3 : Int32)), .val (.ref oa), .val (.int (p3 * (4 : Int32))), .val (.int (((0 : Int32) + (1 : Int32)) + (1 : Int32)))] [(.int (4 : Int32)), (.int (((p2 + (((0 : Int32) + (1 : Int32)) + (1 : Int32))) * (4 : Int32)) + p1)), (.ref pa)])) _
    refine XS.imul X38.here hx rfl (hb hby d3_105) rfl ?_
    show Steps p.tables e below (T38.setTop (mkF m 106 #[.val (.ref a1), .val (.int p1), .val (.int p2), .val (.int p3), .val (.int (3 : Int32)), .val (.ref oa), .val (.int (p3 * (4 : Int32))), .val (.int (((0 : Int32) + (1 : Int32)) + (1 : Int32)))] [(.int ((((p2 + (((0 : Int32) + (1 : Int32)) + (1 : Int32))) * (4 : Int32)) + p1) * (4 : Int32))), (.ref pa)])) _
    refine XS.aload X38.here hx rfl (hb hby d3_106) rfl rfl ?_
    show Steps p.tables e below (T38.setTop (mkF m 108 #[.val (.ref a1), .val (.int p1), .val (.int p2), .val (.int p3), .val (.int (3 : Int32)), .val (.ref oa), .val (.int (p3 * (4 : Int32))), .val (.int (((0 : Int32) + (1 : Int32)) + (1 : Int32)))] [(.ref oa), (.int ((((p2 + (((0 : Int32) + (1 : Int32)) + (1 : Int32))) * (4 : Int32)) + p1) * (4 : Int32))), (.ref pa)])) _
    refine XS.iload X38.here hx rfl (hb hby d3_108) rfl ?_
    show Steps p.tables e below (T38.setTop (mkF m 110 #[.val (.ref a1), .val (.int p1), .val (.int p2), .val (.int p3), .val (.int (3 : Int32)), .val (.ref oa), .val (.int (p3 * (4 : Int32))), .val (.int (((0 : Int32) + (1 : Int32)) + (1 : Int32)))] [(.int (((0 : Int32) + (1 : Int32)) + (1 : Int32))), (.ref oa), (.int ((((p2 + (((0 : Int32) + (1 : Int32)) + (1 : Int32))) * (4 : Int32)) + p1) * (4 : Int32))), (.ref pa)])) _
    refine XS.iload X38.here hx rfl (hb hby d3_110) rfl ?_
    show Steps p.tables e below (T38.setTop (mkF m 112 #[.val (.ref a1), .val (.int p1), .val (.int p2), .val (.int p3), .val (.int (3 : Int32)), .val (.ref oa), .val (.int (p3 * (4 : Int32))), .val (.int (((0 : Int32) + (1 : Int32)) + (1 : Int32)))] [(.int (p3 * (4 : Int32))), (.int (((0 : Int32) + (1 : Int32)) + (1 : Int32))), (.ref oa), (.int ((((p2 + (((0 : Int32) + (1 : Int32)) + (1 : Int32))) * (4 : Int32)) + p1) * (4 : Int32))), (.ref pa)])) _
    refine XS.imul X38.here hx rfl (hb hby d3_112) rfl ?_
    show Steps p.tables e below (T38.setTop (mkF m 113 #[.val (.ref a1), .val (.int p1), .val (.int p2), .val (.int p3), .val (.int (3 : Int32)), .val (.ref oa), .val (.int (p3 * (4 : Int32))), .val (.int (((0 : Int32) + (1 : Int32)) + (1 : Int32)))] [(.int ((((0 : Int32) + (1 : Int32)) + (1 : Int32)) * (p3 * (4 : Int32)))), (.ref oa), (.int ((((p2 + (((0 : Int32) + (1 : Int32)) + (1 : Int32))) * (4 : Int32)) + p1) * (4 : Int32))), (.ref pa)])) _
    refine XS.iload X38.here hx rfl (hb hby d3_113) rfl ?_
    show Steps p.tables e below (T38.setTop (mkF m 115 #[.val (.ref a1), .val (.int p1), .val (.int p2), .val (.int p3), .val (.int (3 : Int32)), .val (.ref oa), .val (.int (p3 * (4 : Int32))), .val (.int (((0 : Int32) + (1 : Int32)) + (1 : Int32)))] [(.int (p3 * (4 : Int32))), (.int ((((0 : Int32) + (1 : Int32)) + (1 : Int32)) * (p3 * (4 : Int32)))), (.ref oa), (.int ((((p2 + (((0 : Int32) + (1 : Int32)) + (1 : Int32))) * (4 : Int32)) + p1) * (4 : Int32))), (.ref pa)])) _
    exact k
  obtain ⟨T42, h42, L42, X42, e42, N42, Kc42, Vc42, st42⟩ := cpA X38 hx hZ hown (hw _ (List.mem_of_getElem? (i := 34) rfl)) (hw _ (List.mem_of_getElem? (i := 37) rfl)) (hw _ (List.mem_of_getElem? (i := 35) rfl)) (hw _ (List.mem_of_getElem? (i := 36) rfl)) e38 V33_0 Vu2 (Or.inl ⟨rfl, rfl⟩) (own_nz s2 (by omega)) (own_nz d2 (by omega)) (own_nz hl4 (by omega)) (by rw [sc2, hlc]; show _ ≤ 48; omega) (by rw [dc2, hlc, hnc]; omega) rfl (by rw [dc2, hlc, R2.1]; omega) N31 g_oa (g := (mkF m 115 #[.val (.ref a1), .val (.int p1), .val (.int p2), .val (.int p3), .val (.int (3 : Int32)), .val (.ref oa), .val (.int (p3 * (4 : Int32))), .val (.int (((0 : Int32) + (1 : Int32)) + (1 : Int32)))] [(.int (p3 * (4 : Int32))), (.int ((((0 : Int32) + (1 : Int32)) + (1 : Int32)) * (p3 * (4 : Int32)))), (.ref oa), (.int ((((p2 + (((0 : Int32) + (1 : Int32)) + (1 : Int32))) * (4 : Int32)) + p1) * (4 : Int32))), (.ref pa)])) rfl (by rw [hml]; rfl) (rest := []) rfl (hb hby d3_115) (by decide) (W := 0) (by show 2 * 0 + _ ≤ _; exact Nat.le_of_eq rfl) (by decide)
  have pre43 : ∀ t, Steps p.tables e below (T42.setTop (mkF m 118 #[.val (.ref a1), .val (.int p1), .val (.int p2), .val (.int p3), .val (.int (3 : Int32)), .val (.ref oa), .val (.int (p3 * (4 : Int32))), .val (.int (((0 : Int32) + (1 : Int32)) + (1 : Int32)))] [])) t → Steps p.tables e below (s₁.setTop (entryFrame m #[(.ref a1), (.int p1), (.int p2), (.int p3), (.int (3 : Int32))] 8)) t := fun t k => pre41 t (st42 t k)
  have F44_0 : Fld Z h42 a1 "com/example/facetwork/facetwork/image/RgbaImage" "width" "I" (.int (4 : Int32)) := (F33_0.keep Kc42 (ninS ne_a1_oa nin0))
  have F44_1 : Fld Z h42 a1 "com/example/facetwork/facetwork/image/RgbaImage" "height" "I" (.int (3 : Int32)) := (F33_1.keep Kc42 (ninS ne_a1_oa nin0))
  have F44_2 : Fld Z h42 a1 "com/example/facetwork/facetwork/image/RgbaImage" "pixels" "[B" (.ref pa) := (F33_2.keep Kc42 (ninS ne_a1_oa nin0))
  have E44_0 : Exa Z h42 oa "[B" := (E33_0.keep Kc42)
  have V44_0 : Arv Z h42 pa kk .byte (48 : Int32) vs (.int (0 : Int32)) := (V33_0.keep Kc42 (ninS ne_pa_oa nin0))
  have K44 : Keep h0 h42 [] := (K33.trans Kc42 (allS (P := fun x => x ∈ [] ∨ h0.size ≤ x) (Or.inr s_oa) all0))
  have Z44 : n0 ≤ h42.size := (Nat.le_trans Z33 Kc42.1)
  have R3 := own_step R2 sc2 dc2 hlc (by rw [dc2, hlc]; omega)
  obtain ⟨u3, hu3⟩ : ∃ u, u = (u2.take ((((0 : Int32) + (1 : Int32)) + (1 : Int32)) * (p3 * (4 : Int32))).toNatClampNeg ++ (List.range (p3 * (4 : Int32)).toNatClampNeg).map (fun i => vs.getD (((((p2 + (((0 : Int32) + (1 : Int32)) + (1 : Int32))) * (4 : Int32)) + p1) * (4 : Int32)).toNatClampNeg + i) (.int (0 : Int32))) ++ u2.drop (((((0 : Int32) + (1 : Int32)) + (1 : Int32)) * (p3 * (4 : Int32))).toNatClampNeg + (p3 * (4 : Int32)).toNatClampNeg)) := ⟨_, rfl⟩
  have Vu3 : Arv Z h42 oa cA9 .byte ((p3 * (3 : Int32)) * (4 : Int32)) u3 (.int (0 : Int32)) := by rw [hu3]; exact Vc42
  rw [← hu3] at R3
  have pre46 : ∀ t, Steps p.tables e below (T42.setTop (mkF m 124 #[.val (.ref a1), .val (.int p1), .val (.int p2), .val (.int p3), .val (.int (3 : Int32)), .val (.ref oa), .val (.int (p3 * (4 : Int32))), .val (.int ((((0 : Int32) + (1 : Int32)) + (1 : Int32)) + (1 : Int32)))] [])) t → Steps p.tables e below (s₁.setTop (entryFrame m #[(.ref a1), (.int p1), (.int p2), (.int p3), (.int (3 : Int32))] 8)) t := by
    intro t k
    refine pre43 t ?_
    refine XS.iinc X42.here hx rfl (hb hby d3_118) rfl (l' := #[.val (.ref a1), .val (.int p1), .val (.int p2), .val (.int p3), .val (.int (3 : Int32)), .val (.ref oa), .val (.int (p3 * (4 : Int32))), .val (.int ((((0 : Int32) + (1 : Int32)) + (1 : Int32)) + (1 : Int32)))]) rfl ?_
    show Steps p.tables e below (T42.setTop (mkF m 121 #[.val (.ref a1), .val (.int p1), .val (.int p2), .val (.int p3), .val (.int (3 : Int32)), .val (.ref oa), .val (.int (p3 * (4 : Int32))), .val (.int ((((0 : Int32) + (1 : Int32)) + (1 : Int32)) + (1 : Int32)))] [])) _
    refine XS.goto X42.here hx rfl (pc0 := 121) (pc' := 82) rfl (hb hby d3_121) (by decide) (by decide) ?_
    show Steps p.tables e below (T42.setTop (mkF m 82 #[.val (.ref a1), .val (.int p1), .val (.int p2), .val (.int p3), .val (.int (3 : Int32)), .val (.ref oa), .val (.int (p3 * (4 : Int32))), .val (.int ((((0 : Int32) + (1 : Int32)) + (1 : Int32)) + (1 : Int32)))] [])) _
    refine XS.iload X42.here hx rfl (hb hby d3_82) rfl ?_
    show Steps p.tables e below (T42.setTop (mkF m 84 #[.val (.ref a1), .val (.int p1), .val (.int p2), .val (.int p3), .val (.int (3 : Int32)), .val (.ref oa), .val (.int (p3 * (4 : Int32))), .val (.int ((((0 : Int32) + (1 : Int32)) + (1 : Int32)) + (1 : Int32)))] [(.int ((((0 : Int32) + (1 : Int32)) + (1 : Int32)) + (1 : Int32)))])) _
    refine XS.iload X42.here hx rfl (hb hby d3_84) rfl ?_
    show Steps p.tables e below (T42.setTop (mkF m 86 #[.val (.ref a1), .val (.int p1), .val (.int p2), .val (.int p3), .val (.int (3 : Int32)), .val (.ref oa), .val (.int (p3 * (4 : Int32))), .val (.int ((((0 : Int32) + (1 : Int32)) + (1 : Int32)) + (1 : Int32)))] [(.int (3 : Int32)), (.int ((((0 : Int32) + (1 : Int32)) + (1 : Int32)) + (1 : Int32)))])) _
    refine XS.icmpYes X42.here hx rfl (pc0 := 86) (pc' := 124) rfl (hb hby d3_86) rfl (XT.ii_ge_t (by decide)) (by decide) (by decide) ?_
    show Steps p.tables e below (T42.setTop (mkF m 124 #[.val (.ref a1), .val (.int p1), .val (.int p2), .val (.int p3), .val (.int (3 : Int32)), .val (.ref oa), .val (.int (p3 * (4 : Int32))), .val (.int ((((0 : Int32) + (1 : Int32)) + (1 : Int32)) + (1 : Int32)))] [])) _
    exact k
  obtain ⟨T47, h47, X47, e47, E47, A47, D47, -, st47⟩ := newO X42 hx hZ hown (hw _ (List.mem_of_getElem? (i := 38) rfl)) (hw _ (List.mem_of_getElem? (i := 2) rfl)) (hw _ (List.mem_of_getElem? (i := 3) rfl)) e42 (g := (mkF m 124 #[.val (.ref a1), .val (.int p1), .val (.int p2), .val (.int p3), .val (.int (3 : Int32)), .val (.ref oa), .val (.int (p3 * (4 : Int32))), .val (.int ((((0 : Int32) + (1 : Int32)) + (1 : Int32)) + (1 : Int32)))] [])) rfl (hb hby d3_124) (by decide) (by decide)
  obtain ⟨im, gz47⟩ : ∃ z, z = h42.size := ⟨_, rfl⟩
  rw [← gz47] at A47 D47 st47
  have g_im : n0 ≤ im := Nat.le_trans Z44 (Nat.le_of_eq gz47.symm)
  have s_im : h0.size ≤ im := Nat.le_trans K44.1 (Nat.le_of_eq gz47.symm)
  have ne_a1_im : a1 ≠ im := by rw [gz47]; exact Nat.ne_of_lt F44_0.lt
  have ne_oa_im : oa ≠ im := by rw [gz47]; exact Nat.ne_of_lt E44_0.lt
  have ne_pa_im : pa ≠ im := by rw [gz47]; exact Nat.ne_of_lt V44_0.lt
  have F_width_im : Fld Z h47 im "com/example/facetwork/facetwork/image/RgbaImage" "width" "I" (.int (0 : Int32)) := D47 (Or.inr (hw _ (List.mem_of_getElem? (i := 12) rfl))) (ty := .int) (by decide)
  have F_height_im : Fld Z h47 im "com/example/facetwork/facetwork/image/RgbaImage" "height" "I" (.int (0 : Int32)) := D47 (Or.inr (hw _ (List.mem_of_getElem? (i := 14) rfl))) (ty := .int) (by decide)
  have F_pixels_im : Fld Z h47 im "com/example/facetwork/facetwork/image/RgbaImage" "pixels" "[B" .null := D47 (Or.inr (hw _ (List.mem_of_getElem? (i := 25) rfl))) (ty := (.array .byte)) (by decide)
  have pre48 : ∀ t, Steps p.tables e below (T47.setTop (mkF m 127 #[.val (.ref a1), .val (.int p1), .val (.int p2), .val (.int p3), .val (.int (3 : Int32)), .val (.ref oa), .val (.int (p3 * (4 : Int32))), .val (.int ((((0 : Int32) + (1 : Int32)) + (1 : Int32)) + (1 : Int32)))] [(.ref im)])) t → Steps p.tables e below (s₁.setTop (entryFrame m #[(.ref a1), (.int p1), (.int p2), (.int p3), (.int (3 : Int32))] 8)) t := fun t k => pre46 t (st47 t k)
  have F49_0 : Fld Z h47 a1 "com/example/facetwork/facetwork/image/RgbaImage" "width" "I" (.int (4 : Int32)) := (F44_0.ext E47)
  have F49_1 : Fld Z h47 a1 "com/example/facetwork/facetwork/image/RgbaImage" "height" "I" (.int (3 : Int32)) := (F44_1.ext E47)
  have F49_2 : Fld Z h47 a1 "com/example/facetwork/facetwork/image/RgbaImage" "pixels" "[B" (.ref pa) := (F44_2.ext E47)
  have E49_0 : Exa Z h47 oa "[B" := (E44_0.ext E47)
  have V49_0 : Arv Z h47 pa kk .byte (48 : Int32) vs (.int (0 : Int32)) := (V44_0.ext E47)
  have V49_1 : Arv Z h47 oa cA9 .byte ((p3 * (3 : Int32)) * (4 : Int32)) u3 (.int (0 : Int32)) := (Vu3.ext E47)
  have K49 : Keep h0 h47 [] := (K44.ext E47)
  have Z49 : n0 ≤ h47.size := (Nat.le_trans Z44 E47.1)
  have pre51 : ∀ t, Steps p.tables e below (T47.setTop (mkF m 133 #[.val (.ref a1), .val (.int p1), .val (.int p2), .val (.int p3), .val (.int (3 : Int32)), .val (.ref oa), .val (.int (p3 * (4 : Int32))), .val (.int ((((0 : Int32) + (1 : Int32)) + (1 : Int32)) + (1 : Int32)))] [(.ref oa), (.int (3 : Int32)), (.int p3), (.ref im), (.ref im)])) t → Steps p.tables e below (s₁.setTop (entryFrame m #[(.ref a1), (.int p1), (.int p2), (.int p3), (.int (3 : Int32))] 8)) t := by
    intro t k
    refine pre48 t ?_
    refine XS.dup X47.here hx rfl (hb hby d3_127) rfl rfl ?_
    show Steps p.tables e below (T47.setTop (mkF m 128 #[.val (.ref a1), .val (.int p1), .val (.int p2), .val (.int p3), .val (.int (3 : Int32)), .val (.ref oa), .val (.int (p3 * (4 : Int32))), .val (.int ((((0 : Int32) + (1 : Int32)) + (1 : Int32)) + (1 : Int32)))] [(.ref im), (.ref im)])) _
    refine XS.iloadN X47.here hx rfl (hb hby d3_128) rfl ?_
    show Steps p.tables e below (T47.setTop (mkF m 129 #[.val (.ref a1), .val (.int p1), .val (.int p2), .val (.int p3), .val (.int (3 : Int32)), .val (.ref oa), .val (.int (p3 * (4 : Int32))), .val (.int ((((0 : Int32) + (1 : Int32)) + (1 : Int32)) + (1 : Int32)))] [(.int p3), (.ref im), (.ref im)])) _
    refine XS.iload X47.here hx rfl (hb hby d3_129) rfl ?_
    show Steps p.tables e below (T47.setTop (mkF m 131 #[.val (.ref a1), .val (.int p1), .val (.int p2), .val (.int p3), .val (.int (3 : Int32)), .val (.ref oa), .val (.int (p3 * (4 : Int32))), .val (.int ((((0 : Int32) + (1 : Int32)) + (1 : Int32)) + (1 : Int32)))] [(.int (3 : Int32)), (.int p3), (.ref im), (.ref im)])) _
    refine XS.aload X47.here hx rfl (hb hby d3_131) rfl rfl ?_
    show Steps p.tables e below (T47.setTop (mkF m 133 #[.val (.ref a1), .val (.int p1), .val (.int p2), .val (.int p3), .val (.int (3 : Int32)), .val (.ref oa), .val (.int (p3 * (4 : Int32))), .val (.int ((((0 : Int32) + (1 : Int32)) + (1 : Int32)) + (1 : Int32)))] [(.ref oa), (.int (3 : Int32)), (.int p3), (.ref im), (.ref im)])) _
    exact k
  obtain ⟨_, _, ⟨T53, L53, k53, n53⟩, -, X53, ⟨Lc53, hQ53, l53, y53, z53⟩, st53⟩ := X47.specialBack hx (y := (⟨"com/example/facetwork/facetwork/image/RgbaImage", "<init>", "(II[B)V"⟩ : MethodName)) rfl hown (mvT hZ (hw _ (List.mem_of_getElem? (i := 39) rfl))) (mvT hZ (hw _ (List.mem_of_getElem? (i := 5) rfl))) (mvT hZ (hw _ (List.mem_of_getElem? (i := 6) rfl))) (by decide) (backOf (W := 1) (rm1 l Z a0 hw [] im p3 (3 : Int32) oa cA9 ((p3 * (3 : Int32)) * (4 : Int32)) u3 h47 n0 Z49 A47 g_im F_width_im F_height_im F_pixels_im E49_0 V49_1 ne_oa_im.symm hw0 (by decide) hn2 (by rw [hnc]; omega)) hZ (hw _ (List.mem_of_getElem? (i := 6) rfl)) (hw _ (List.mem_of_getElem? (i := 3) rfl)) (by decide) (by decide)) (g := (mkF m 133 #[.val (.ref a1), .val (.int p1), .val (.int p2), .val (.int p3), .val (.int (3 : Int32)), .val (.ref oa), .val (.int (p3 * (4 : Int32))), .val (.int ((((0 : Int32) + (1 : Int32)) + (1 : Int32)) + (1 : Int32)))] [(.ref oa), (.int (3 : Int32)), (.int p3), (.ref im), (.ref im)])) rfl (by rw [hml]; rfl) (Steps.refl _) (a := im) (argsL := [(.int p3), (.int (3 : Int32)), (.ref oa)]) (rest := [(.ref im)]) (lenOf pd_img rfl) rfl (by show 2 * 0 + _ ≤ _; exact Nat.le_of_eq rfl) (hb hby d3_133) (fun _ _ => ⟨rfl, e47, (by decide : 2 + 1 ≤ _), (by decide : 51 + 48 ≤ _)⟩)
  dsimp only [Pt.U, Pt.locs, Pt.cells, Pt.slots] at X53 l53 y53 z53 st53 hQ53
  subst l53 y53 z53
  obtain ⟨pb, rfl, Nq53, Kq53, gq53, Fa53, Fb53, Fc53, Eq53, Vq53⟩ := hQ53
  have N53 := Fr.app N42 Nq53
  have pre54 : ∀ t, Steps p.tables e below (T53.setTop (mkF m 136 #[.val (.ref a1), .val (.int p1), .val (.int p2), .val (.int p3), .val (.int (3 : Int32)), .val (.ref oa), .val (.int (p3 * (4 : Int32))), .val (.int ((((0 : Int32) + (1 : Int32)) + (1 : Int32)) + (1 : Int32)))] [(.ref im)])) t → Steps p.tables e below (s₁.setTop (entryFrame m #[(.ref a1), (.int p1), (.int p2), (.int p3), (.int (3 : Int32))] 8)) t := fun t k => pre51 t (st53.trans k)
  obtain ⟨Lo55, Xo55, No55⟩ : ∃ L, Stand p l e ({ frames := 2, cells := 3, slots := 99, locals := 40 } : Room) s m #[(.ref a1), (.int p1), (.int p2), (.int p3), (.int (3 : Int32))] below meth c T53 L 3 99 ∧ Fr n0 L := ⟨_, X53, N53⟩
  obtain ⟨h53, e53⟩ : ∃ z, T53.heap = z := ⟨_, rfl⟩
  have g_pb : n0 ≤ pb := Nat.le_trans Z49 gq53
  have s_pb : h0.size ≤ pb := Nat.le_trans K49.1 gq53
  have ne_a1_pb : a1 ≠ pb := Nat.ne_of_lt (Nat.lt_of_lt_of_le F49_0.lt gq53)
  have ne_im_pb : im ≠ pb := Nat.ne_of_lt (Nat.lt_of_lt_of_le F_width_im.lt gq53)
  have ne_oa_pb : oa ≠ pb := Nat.ne_of_lt (Nat.lt_of_lt_of_le E49_0.lt gq53)
  have ne_pa_pb : pa ≠ pb := Nat.ne_of_lt (Nat.lt_of_lt_of_le V49_0.lt gq53)
  rw [e53] at Kq53 Fa53 Fb53 Fc53 Eq53 Vq53
  have F56_0 : Fld Z h53 a1 "com/example/facetwork/facetwork/image/RgbaImage" "width" "I" (.int (4 : Int32)) := (F49_0.keep Kq53 (ninS ne_a1_im nin0))
  have F56_1 : Fld Z h53 a1 "com/example/facetwork/facetwork/image/RgbaImage" "height" "I" (.int (3 : Int32)) := (F49_1.keep Kq53 (ninS ne_a1_im nin0))
  have F56_2 : Fld Z h53 a1 "com/example/facetwork/facetwork/image/RgbaImage" "pixels" "[B" (.ref pa) := (F49_2.keep Kq53 (ninS ne_a1_im nin0))
  have E56_0 : Exa Z h53 oa "[B" := (E49_0.keep Kq53)
  have E56_1 : Exa Z h53 im "com/example/facetwork/facetwork/image/RgbaImage" := (A47.keep Kq53)
  have V56_0 : Arv Z h53 pa kk .byte (48 : Int32) vs (.int (0 : Int32)) := (V49_0.keep Kq53 (ninS ne_pa_im nin0))
  have V56_1 : Arv Z h53 oa cA9 .byte ((p3 * (3 : Int32)) * (4 : Int32)) u3 (.int (0 : Int32)) := (V49_1.keep Kq53 (ninS ne_oa_im nin0))
  have K56 : Keep h0 h53 [] := (K49.trans Kq53 (allS (P := fun x => x ∈ [] ∨ h0.size ≤ x) (Or.inr s_im) all0))
  have Z56 : n0 ≤ h53.size := (Nat.le_trans Z49 Kq53.1)
  obtain ⟨fs, hr, hrun, hended, hW, hsame⟩ := Xo55.leave (v := some (.ref im)) (fun h => by rw [Bd.returns] at h; cases h)
  refine ⟨_, _, pre54 _ ?_, hrun, hended, _, _, rfl, ?_, ⟨_, rfl⟩, hW, hsame.mono (by decide) (by decide)⟩
  · exact retOut Xo55 hx Bd.returns rfl (Or.inr (Or.inr (Or.inr (Or.inr ⟨rfl, rfl, rfl⟩)))) (hb hby d3_136) hr
  · show Q3h3 Z a1 p1 p2 p3 pa kk vs h0 n0 _ T53.heap _
    rw [e53]
    exact ⟨im, pb, cA9, u3, rfl, No55, K56, E56_1, Fa53, Fb53, Fc53, Eq53, Vq53, R3⟩
theorem pd_crop : parseMethodDescriptor "(IIII)Lcom/example/facetwork/facetwork/image/RgbaImage;" = some ⟨[.int, .int, .int, .int], some (.object "com/example/facetwork/facetwork/image/RgbaImage")⟩ := by decide +kernel
theorem pd_i : parseMethodDescriptor "()I" = some ⟨[], some .int⟩ := by decide +kernel
theorem pd_pix : parseMethodDescriptor "()[B" = some ⟨[], some (.array .byte)⟩ := by decide +kernel
theorem pn_law : plainName "com/example/facetwork/facetwork/image/RgbaImageCropPinLaw" = true := by first | (simp [plainName, overriddenIn]; done) | decide +kernel
theorem ef_law (m : MethodId) (sd : Int32) (xs : Int32) (ys : Int32) (ws0 : Int32) (hs : Int32) (pk : Int64) : entryFrame m #[(.int sd), (.int xs), (.int ys), (.int ws0), (.int hs), (.long pk)] maxLocals = mkF m 0 #[.val (.int sd), .val (.int xs), .val (.int ys), .val (.int ws0), .val (.int hs), .val (.long pk), .second, .unset, .unset, .unset, .unset, .unset, .unset, .unset, .unset, .unset, .unset, .unset, .unset, .unset, .unset] [] := by first | (simp [entryFrame, mkF, argsToLocals, Value.category, maxLocals]; done) | rfl
def Qlaw (Z : State) (sd : Int32) (xs : Int32) (ys : Int32) (ws0 : Int32) (hs : Int32) (pk : Int64) (h0 : Heap) (n0 : Nat) (v : Option Value) (h : Heap) (L : List Loc) : Prop := v = some (.int (1 : Int32)) ∧ Fr n0 L
set_option maxRecDepth 65536 in
set_option maxHeartbeats 40000000 in
theorem rmlaw (l : Launch) (Z : State) (a0 : Array Value) (hw : ∀ d ∈ tables_1, d.before a0 Z = true) (ws : List Jvm.Cond) (sd : Int32) (xs : Int32) (ys : Int32) (ws0 : Int32) (hs : Int32) (pk : Int64) (h0 : Heap) (n0 : Nat) (Z0 : n0 ≤ h0.size) :
    MetFree l x (head1 (Jvm.Cond.code x code maxLocals ret :: ws) room_1) (fun a U => a = #[(.int sd), (.int xs), (.int ys), (.int ws0), (.int hs), (.long pk)] ∧ Z.Warmed39 U.vm ∧ U.heap = h0) (fun _ _ _ _ _ => True) (fun _ U o U' => ∃ v L, o = .returned v ∧ Qlaw Z sd xs ys ws0 hs pk h0 n0 v U'.heap L ∧ FrameEnd U o U' L room_1.cells room_1.slots) := by
  refine MetFree.of_bodySF (plainFor_of_name pn_law) hisR ?_
  intro p e s m args below meth c s₁ Bd hml0 hP hK
  obtain ⟨rfl, hZ, hh⟩ := hP
  have hx := Bd.exec
  have hby := Bd.bytes
  have hml : c.maxLocals = 21 := hml0
  have hown : s.vm.findClass "com/example/facetwork/facetwork/image/RgbaImageCropPinLaw" = some m.cls := findClass_of_methodNamed Bd.named
  have hnm := (name_of_methodNamed Bd.named Bd.method).1
  have X0 : Stand p l e room_1 s m #[(.int sd), (.int xs), (.int ys), (.int ws0), (.int hs), (.long pk)] below meth c s₁ [] 0 0 := Stand.of_body Bd
  have e0 : s₁.heap = h0 := by rw [← hh, Bd.state]; rfl
  have N0 := Fr.nil n0
  have pre0 : ∀ t, Steps p.tables e below (s₁.setTop (mkF m 0 #[.val (.int sd), .val (.int xs), .val (.int ys), .val (.int ws0), .val (.int hs), .val (.long pk), .second, .unset, .unset, .unset, .unset, .unset, .unset, .unset, .unset, .unset, .unset, .unset, .unset, .unset, .unset] [])) t → Steps p.tables e below (s₁.setTop (entryFrame m #[(.int sd), (.int xs), (.int ys), (.int ws0), (.int hs), (.long pk)] maxLocals)) t := fun t k => castTop (ef_law m sd xs ys ws0 hs pk) k
  have pre2 : ∀ t, Steps p.tables e below (s₁.setTop (mkF m 5 #[.val (.int sd), .val (.int xs), .val (.int ys), .val (.int ws0), .val (.int hs), .val (.long pk), .second, .val (.int sd), .unset, .unset, .unset, .unset, .unset, .unset, .unset, .unset, .unset, .unset, .unset, .unset, .unset] [(.int (48 : Int32))])) t → Steps p.tables e below (s₁.setTop (entryFrame m #[(.int sd), (.int xs), (.int ys), (.int ws0), (.int hs), (.long pk)] maxLocals)) t := by
    intro t k
    refine pre0 t ?_
    refine XS.iloadN X0.here hx rfl (hb hby at_0) rfl ?_
    show Steps p.tables e below (s₁.setTop (mkF m 1 #[.val (.int sd), .val (.int xs), .val (.int ys), .val (.int ws0), .val (.int hs), .val (.long pk), .second, .unset, .unset, .unset, .unset, .unset, .unset, .unset, .unset, .unset, .unset, .unset, .unset, .unset, .unset] [(.int sd)])) _
    refine XS.istore X0.here hx rfl (hb hby at_1) rfl (l' := #[.val (.int sd), .val (.int xs), .val (.int ys), .val (.int ws0), .val (.int hs), .val (.long pk), .second, .val (.int sd), .unset, .unset, .unset, .unset, .unset, .unset, .unset, .unset, .unset, .unset, .unset, .unset, .unset]) rfl ?_
    show Steps p.tables e below (s₁.setTop (mkF m 3 #[.val (.int sd), .val (.int xs), .val (.int ys), .val (.int ws0), .val (.int hs), .val (.long pk), .second, .val (.int sd), .unset, .unset, .unset, .unset, .unset, .unset, .unset, .unset, .unset, .unset, .unset, .unset, .unset] [])) _
    refine XS.bipush X0.here hx rfl (hb hby at_3) ?_
    show Steps p.tables e below (s₁.setTop (mkF m 5 #[.val (.int sd), .val (.int xs), .val (.int ys), .val (.int ws0), .val (.int hs), .val (.long pk), .second, .val (.int sd), .unset, .unset, .unset, .unset, .unset, .unset, .unset, .unset, .unset, .unset, .unset, .unset, .unset] [(.int (48 : Int32))])) _
    exact k
  obtain ⟨T3, h3, cA3, X3, e3, E3, A3, Ea3, st3⟩ := newPE X0 hx hZ (hw _ (List.mem_of_getElem? (i := 0) rfl)) e0 (g := (mkF m 5 #[.val (.int sd), .val (.int xs), .val (.int ys), .val (.int ws0), .val (.int hs), .val (.long pk), .second, .val (.int sd), .unset, .unset, .unset, .unset, .unset, .unset, .unset, .unset, .unset, .unset, .unset, .unset, .unset] [(.int (48 : Int32))])) rfl (hb hby at_5) rfl (by decide) (cap := 48) (by decide) (by decide) (by decide) (by decide) (ad := "[B") rfl
  obtain ⟨b1, gz3⟩ : ∃ z, z = h0.size := ⟨_, rfl⟩
  rw [← gz3] at A3 Ea3 st3
  have g_b1 : n0 ≤ b1 := Nat.le_trans Z0 (Nat.le_of_eq gz3.symm)
  have V3 : Arv Z h3 b1 cA3 .byte (48 : Int32) [(.int (0 : Int32)), (.int (0 : Int32)), (.int (0 : Int32)), (.int (0 : Int32)), (.int (0 : Int32)), (.int (0 : Int32)), (.int (0 : Int32)), (.int (0 : Int32)), (.int (0 : Int32)), (.int (0 : Int32)), (.int (0 : Int32)), (.int (0 : Int32)), (.int (0 : Int32)), (.int (0 : Int32)), (.int (0 : Int32)), (.int (0 : Int32)), (.int (0 : Int32)), (.int (0 : Int32)), (.int (0 : Int32)), (.int (0 : Int32)), (.int (0 : Int32)), (.int (0 : Int32)), (.int (0 : Int32)), (.int (0 : Int32)), (.int (0 : Int32)), (.int (0 : Int32)), (.int (0 : Int32)), (.int (0 : Int32)), (.int (0 : Int32)), (.int (0 : Int32)), (.int (0 : Int32)), (.int (0 : Int32)), (.int (0 : Int32)), (.int (0 : Int32)), (.int (0 : Int32)), (.int (0 : Int32)), (.int (0 : Int32)), (.int (0 : Int32)), (.int (0 : Int32)), (.int (0 : Int32)), (.int (0 : Int32)), (.int (0 : Int32)), (.int (0 : Int32)), (.int (0 : Int32)), (.int (0 : Int32)), (.int (0 : Int32)), (.int (0 : Int32)), (.int (0 : Int32))] (.int (0 : Int32)) := Arv.pad (Arv.new A3 (by decide)) (pad_rep [] (.int (0 : Int32)) 48)
  have pre4 : ∀ t, Steps p.tables e below (T3.setTop (mkF m 7 #[.val (.int sd), .val (.int xs), .val (.int ys), .val (.int ws0), .val (.int hs), .val (.long pk), .second, .val (.int sd), .unset, .unset, .unset, .unset, .unset, .unset, .unset, .unset, .unset, .unset, .unset, .unset, .unset] [(.ref b1)])) t → Steps p.tables e below (s₁.setTop (entryFrame m #[(.int sd), (.int xs), (.int ys), (.int ws0), (.int hs), (.long pk)] maxLocals)) t := fun t k => pre2 t (st3 t k)
  have Z5 : n0 ≤ h3.size := (Nat.le_trans Z0 E3.1)
  have pre6 : ∀ t, Steps p.tables e below (T3.setTop (mkF m 12 #[.val (.int sd), .val (.int xs), .val (.int ys), .val (.int ws0), .val (.int hs), .val (.long pk), .second, .val (.int sd), .unset, .unset, .unset, .unset, .unset, .unset, .unset, .unset, .unset, .unset, .unset, .unset, .unset] [(.int (sd.toInt8.toInt32)), (.int (0 : Int32)), (.ref b1), (.ref b1)])) t → Steps p.tables e below (s₁.setTop (entryFrame m #[(.int sd), (.int xs), (.int ys), (.int ws0), (.int hs), (.long pk)] maxLocals)) t := by
    intro t k
    refine pre4 t ?_
    refine XS.dup X3.here hx rfl (hb hby at_7) rfl rfl ?_
    show Steps p.tables e below (T3.setTop (mkF m 8 #[.val (.int sd), .val (.int xs), .val (.int ys), .val (.int ws0), .val (.int hs), .val (.long pk), .second, .val (.int sd), .unset, .unset, .unset, .unset, .unset, .unset, .unset, .unset, .unset, .unset, .unset, .unset, .unset] [(.ref b1), (.ref b1)])) _
    refine XS.iconst X3.here hx rfl (hb hby at_8) ?_
    show Steps p.tables e below (T3.setTop (mkF m 9 #[.val (.int sd), .val (.int xs), .val (.int ys), .val (.int ws0), .val (.int hs), .val (.long pk), .second, .val (.int sd), .unset, .unset, .unset, .unset, .unset, .unset, .unset, .unset, .unset, .unset, .unset, .unset, .unset] [(.int (0 : Int32)), (.ref b1), (.ref b1)])) _
    refine XS.iload X3.here hx rfl (hb hby at_9) rfl ?_
    show Steps p.tables e below (T3.setTop (mkF m 11 #[.val (.int sd), .val (.int xs), .val (.int ys), .val (.int ws0), .val (.int hs), .val (.long pk), .second, .val (.int sd), .unset, .unset, .unset, .unset, .unset, .unset, .unset, .unset, .unset, .unset, .unset, .unset, .unset] [(.int sd), (.int (0 : Int32)), (.ref b1), (.ref b1)])) _
    refine XT.i2b X3.here hx rfl (hb hby at_11) rfl ?_
    show Steps p.tables e below (T3.setTop (mkF m 12 #[.val (.int sd), .val (.int xs), .val (.int ys), .val (.int ws0), .val (.int hs), .val (.long pk), .second, .val (.int sd), .unset, .unset, .unset, .unset, .unset, .unset, .unset, .unset, .unset, .unset, .unset, .unset, .unset] [(.int (sd.toInt8.toInt32)), (.int (0 : Int32)), (.ref b1), (.ref b1)])) _
    exact k
  obtain ⟨cc7, Ar7, q1_7, Sz7, q3_7, Hs7, G7⟩ := id V3
  have hin7 : ¬ ((0 : Int32) < 0 ∨ cc7.slots.size ≤ ((0 : Int32) : Int32).toNatClampNeg) := inb_of Sz7 ⟨(by decide), (by decide)⟩
  obtain ⟨T7, h7, X7, e7, W7, st7⟩ := stB X3 hx hZ e3 Ar7 hin7 (g := (mkF m 12 #[.val (.int sd), .val (.int xs), .val (.int ys), .val (.int ws0), .val (.int hs), .val (.long pk), .second, .val (.int sd), .unset, .unset, .unset, .unset, .unset, .unset, .unset, .unset, .unset, .unset, .unset, .unset, .unset] [(.int (sd.toInt8.toInt32)), (.int (0 : Int32)), (.ref b1), (.ref b1)])) rfl rfl (hb hby at_12)
  have N7 := Fr.snoc X7 N0 g_b1
  have V7 : Arv Z h7 b1 cA3 .byte (48 : Int32) [(.int (nar .byte (sd.toInt8.toInt32))), (.int (0 : Int32)), (.int (0 : Int32)), (.int (0 : Int32)), (.int (0 : Int32)), (.int (0 : Int32)), (.int (0 : Int32)), (.int (0 : Int32)), (.int (0 : Int32)), (.int (0 : Int32)), (.int (0 : Int32)), (.int (0 : Int32)), (.int (0 : Int32)), (.int (0 : Int32)), (.int (0 : Int32)), (.int (0 : Int32)), (.int (0 : Int32)), (.int (0 : Int32)), (.int (0 : Int32)), (.int (0 : Int32)), (.int (0 : Int32)), (.int (0 : Int32)), (.int (0 : Int32)), (.int (0 : Int32)), (.int (0 : Int32)), (.int (0 : Int32)), (.int (0 : Int32)), (.int (0 : Int32)), (.int (0 : Int32)), (.int (0 : Int32)), (.int (0 : Int32)), (.int (0 : Int32)), (.int (0 : Int32)), (.int (0 : Int32)), (.int (0 : Int32)), (.int (0 : Int32)), (.int (0 : Int32)), (.int (0 : Int32)), (.int (0 : Int32)), (.int (0 : Int32)), (.int (0 : Int32)), (.int (0 : Int32)), (.int (0 : Int32)), (.int (0 : Int32)), (.int (0 : Int32)), (.int (0 : Int32)), (.int (0 : Int32)), (.int (0 : Int32))] (.int (0 : Int32)) := Arv.set Ar7 q1_7 Sz7 q3_7 Hs7 G7 (fits_nar_byte _) W7 0 (by decide) (show 0 < 48 by decide)
  have pre9 : ∀ t, Steps p.tables e below (T7.setTop (mkF m 13 #[.val (.int sd), .val (.int xs), .val (.int ys), .val (.int ws0), .val (.int hs), .val (.long pk), .second, .val (.int sd), .unset, .unset, .unset, .unset, .unset, .unset, .unset, .unset, .unset, .unset, .unset, .unset, .unset] [(.ref b1)])) t → Steps p.tables e below (s₁.setTop (entryFrame m #[(.int sd), (.int xs), (.int ys), (.int ws0), (.int hs), (.long pk)] maxLocals)) t := fun t k => pre6 t (st7 t k)
  obtain ⟨Lo10, Xo10, No10⟩ : ∃ L, Stand p l e room_1 s m #[(.int sd), (.int xs), (.int ys), (.int ws0), (.int hs), (.long pk)] below meth c T7 L 1 48 ∧ Fr n0 L := ⟨_, X7, N7⟩
  have E11_0 : Exa Z h7 b1 "[B" := (Ea3.wr W7)
  have Z11 : n0 ≤ h7.size := (Nat.le_trans Z5 (Nat.le_of_eq W7.size.symm))
  have pre12 : ∀ t, Steps p.tables e below (T7.setTop (mkF m 20 #[.val (.int sd), .val (.int xs), .val (.int ys), .val (.int ws0), .val (.int hs), .val (.long pk), .second, .val (.int sd), .unset, .unset, .unset, .unset, .unset, .unset, .unset, .unset, .unset, .unset, .unset, .unset, .unset] [(.int ((sd + (1 : Int32)).toInt8.toInt32)), (.int (1 : Int32)), (.ref b1), (.ref b1)])) t → Steps p.tables e below (s₁.setTop (entryFrame m #[(.int sd), (.int xs), (.int ys), (.int ws0), (.int hs), (.long pk)] maxLocals)) t := by
    intro t k
    refine pre9 t ?_
    refine XS.dup Xo10.here hx rfl (hb hby at_13) rfl rfl ?_
    show Steps p.tables e below (T7.setTop (mkF m 14 #[.val (.int sd), .val (.int xs), .val (.int ys), .val (.int ws0), .val (.int hs), .val (.long pk), .second, .val (.int sd), .unset, .unset, .unset, .unset, .unset, .unset, .unset, .unset, .unset, .unset, .unset, .unset, .unset] [(.ref b1), (.ref b1)])) _
    refine XS.iconst Xo10.here hx rfl (hb hby at_14) ?_
    show Steps p.tables e below (T7.setTop (mkF m 15 #[.val (.int sd), .val (.int xs), .val (.int ys), .val (.int ws0), .val (.int hs), .val (.long pk), .second, .val (.int sd), .unset, .unset, .unset, .unset, .unset, .unset, .unset, .unset, .unset, .unset, .unset, .unset, .unset] [(.int (1 : Int32)), (.ref b1), (.ref b1)])) _
    refine XS.iload Xo10.here hx rfl (hb hby at_15) rfl ?_
    show Steps p.tables e below (T7.setTop (mkF m 17 #[.val (.int sd), .val (.int xs), .val (.int ys), .val (.int ws0), .val (.int hs), .val (.long pk), .second, .val (.int sd), .unset, .unset, .unset, .unset, .unset, .unset, .unset, .unset, .unset, .unset, .unset, .unset, .unset] [(.int sd), (.int (1 : Int32)), (.ref b1), (.ref b1)])) _
    refine XS.iconst Xo10.here hx rfl (hb hby at_17) ?_
    show Steps p.tables e below (T7.setTop (mkF m 18 #[.val (.int sd), .val (.int xs), .val (.int ys), .val (.int ws0), .val (.int hs), .val (.long pk), .second, .val (.int sd), .unset, .unset, .unset, .unset, .unset, .unset, .unset, .unset, .unset, .unset, .unset, .unset, .unset] [(.int (1 : Int32)), (.int sd), (.int (1 : Int32)), (.ref b1), (.ref b1)])) _
    refine XS.iadd Xo10.here hx rfl (hb hby at_18) rfl ?_
    show Steps p.tables e below (T7.setTop (mkF m 19 #[.val (.int sd), .val (.int xs), .val (.int ys), .val (.int ws0), .val (.int hs), .val (.long pk), .second, .val (.int sd), .unset, .unset, .unset, .unset, .unset, .unset, .unset, .unset, .unset, .unset, .unset, .unset, .unset] [(.int (sd + (1 : Int32))), (.int (1 : Int32)), (.ref b1), (.ref b1)])) _
    refine XT.i2b Xo10.here hx rfl (hb hby at_19) rfl ?_
    show Steps p.tables e below (T7.setTop (mkF m 20 #[.val (.int sd), .val (.int xs), .val (.int ys), .val (.int ws0), .val (.int hs), .val (.long pk), .second, .val (.int sd), .unset, .unset, .unset, .unset, .unset, .unset, .unset, .unset, .unset, .unset, .unset, .unset, .unset] [(.int ((sd + (1 : Int32)).toInt8.toInt32)), (.int (1 : Int32)), (.ref b1), (.ref b1)])) _
    exact k
  obtain ⟨cc13, Ar13, q1_13, Sz13, q3_13, Hs13, G13⟩ := id V7
  have hin13 : ¬ ((1 : Int32) < 0 ∨ cc13.slots.size ≤ ((1 : Int32) : Int32).toNatClampNeg) := inb_of Sz13 ⟨(by decide), (by decide)⟩
  obtain ⟨T13, h13, X13, e13, W13, st13⟩ := stB Xo10 hx hZ e7 Ar13 hin13 (g := (mkF m 20 #[.val (.int sd), .val (.int xs), .val (.int ys), .val (.int ws0), .val (.int hs), .val (.long pk), .second, .val (.int sd), .unset, .unset, .unset, .unset, .unset, .unset, .unset, .unset, .unset, .unset, .unset, .unset, .unset] [(.int ((sd + (1 : Int32)).toInt8.toInt32)), (.int (1 : Int32)), (.ref b1), (.ref b1)])) rfl rfl (hb hby at_20)
  have N13 := Fr.snoc X13 No10 g_b1
  have V13 : Arv Z h13 b1 cA3 .byte (48 : Int32) [(.int (nar .byte (sd.toInt8.toInt32))), (.int (nar .byte ((sd + (1 : Int32)).toInt8.toInt32))), (.int (0 : Int32)), (.int (0 : Int32)), (.int (0 : Int32)), (.int (0 : Int32)), (.int (0 : Int32)), (.int (0 : Int32)), (.int (0 : Int32)), (.int (0 : Int32)), (.int (0 : Int32)), (.int (0 : Int32)), (.int (0 : Int32)), (.int (0 : Int32)), (.int (0 : Int32)), (.int (0 : Int32)), (.int (0 : Int32)), (.int (0 : Int32)), (.int (0 : Int32)), (.int (0 : Int32)), (.int (0 : Int32)), (.int (0 : Int32)), (.int (0 : Int32)), (.int (0 : Int32)), (.int (0 : Int32)), (.int (0 : Int32)), (.int (0 : Int32)), (.int (0 : Int32)), (.int (0 : Int32)), (.int (0 : Int32)), (.int (0 : Int32)), (.int (0 : Int32)), (.int (0 : Int32)), (.int (0 : Int32)), (.int (0 : Int32)), (.int (0 : Int32)), (.int (0 : Int32)), (.int (0 : Int32)), (.int (0 : Int32)), (.int (0 : Int32)), (.int (0 : Int32)), (.int (0 : Int32)), (.int (0 : Int32)), (.int (0 : Int32)), (.int (0 : Int32)), (.int (0 : Int32)), (.int (0 : Int32)), (.int (0 : Int32))] (.int (0 : Int32)) := Arv.set Ar13 q1_13 Sz13 q3_13 Hs13 G13 (fits_nar_byte _) W13 1 (by decide) (show 1 < 48 by decide)
  have pre15 : ∀ t, Steps p.tables e below (T13.setTop (mkF m 21 #[.val (.int sd), .val (.int xs), .val (.int ys), .val (.int ws0), .val (.int hs), .val (.long pk), .second, .val (.int sd), .unset, .unset, .unset, .unset, .unset, .unset, .unset, .unset, .unset, .unset, .unset, .unset, .unset] [(.ref b1)])) t → Steps p.tables e below (s₁.setTop (entryFrame m #[(.int sd), (.int xs), (.int ys), (.int ws0), (.int hs), (.long pk)] maxLocals)) t := fun t k => pre12 t (st13 t k)
  obtain ⟨Lo16, Xo16, No16⟩ : ∃ L, Stand p l e room_1 s m #[(.int sd), (.int xs), (.int ys), (.int ws0), (.int hs), (.long pk)] below meth c T13 L 1 48 ∧ Fr n0 L := ⟨_, X13, N13⟩
  have E17_0 : Exa Z h13 b1 "[B" := (E11_0.wr W13)
  have Z17 : n0 ≤ h13.size := (Nat.le_trans Z11 (Nat.le_of_eq W13.size.symm))
  have pre18 : ∀ t, Steps p.tables e below (T13.setTop (mkF m 28 #[.val (.int sd), .val (.int xs), .val (.int ys), .val (.int ws0), .val (.int hs), .val (.long pk), .second, .val (.int sd), .unset, .unset, .unset, .unset, .unset, .unset, .unset, .unset, .unset, .unset, .unset, .unset, .unset] [(.int ((sd + (2 : Int32)).toInt8.toInt32)), (.int (2 : Int32)), (.ref b1), (.ref b1)])) t → Steps p.tables e below (s₁.setTop (entryFrame m #[(.int sd), (.int xs), (.int ys), (.int ws0), (.int hs), (.long pk)] maxLocals)) t := by
    intro t k
    refine pre15 t ?_
    refine XS.dup Xo16.here hx rfl (hb hby at_21) rfl rfl ?_
    show Steps p.tables e below (T13.setTop (mkF m 22 #[.val (.int sd), .val (.int xs), .val (.int ys), .val (.int ws0), .val (.int hs), .val (.long pk), .second, .val (.int sd), .unset, .unset, .unset, .unset, .unset, .unset, .unset, .unset, .unset, .unset, .unset, .unset, .unset] [(.ref b1), (.ref b1)])) _
    refine XS.iconst Xo16.here hx rfl (hb hby at_22) ?_
    show Steps p.tables e below (T13.setTop (mkF m 23 #[.val (.int sd), .val (.int xs), .val (.int ys), .val (.int ws0), .val (.int hs), .val (.long pk), .second, .val (.int sd), .unset, .unset, .unset, .unset, .unset, .unset, .unset, .unset, .unset, .unset, .unset, .unset, .unset] [(.int (2 : Int32)), (.ref b1), (.ref b1)])) _
    refine XS.iload Xo16.here hx rfl (hb hby at_23) rfl ?_
    show Steps p.tables e below (T13.setTop (mkF m 25 #[.val (.int sd), .val (.int xs), .val (.int ys), .val (.int ws0), .val (.int hs), .val (.long pk), .second, .val (.int sd), .unset, .unset, .unset, .unset, .unset, .unset, .unset, .unset, .unset, .unset, .unset, .unset, .unset] [(.int sd), (.int (2 : Int32)), (.ref b1), (.ref b1)])) _
    refine XS.iconst Xo16.here hx rfl (hb hby at_25) ?_
    show Steps p.tables e below (T13.setTop (mkF m 26 #[.val (.int sd), .val (.int xs), .val (.int ys), .val (.int ws0), .val (.int hs), .val (.long pk), .second, .val (.int sd), .unset, .unset, .unset, .unset, .unset, .unset, .unset, .unset, .unset, .unset, .unset, .unset, .unset] [(.int (2 : Int32)), (.int sd), (.int (2 : Int32)), (.ref b1), (.ref b1)])) _
    refine XS.iadd Xo16.here hx rfl (hb hby at_26) rfl ?_
    show Steps p.tables e below (T13.setTop (mkF m 27 #[.val (.int sd), .val (.int xs), .val (.int ys), .val (.int ws0), .val (.int hs), .val (.long pk), .second, .val (.int sd), .unset, .unset, .unset, .unset, .unset, .unset, .unset, .unset, .unset, .unset, .unset, .unset, .unset] [(.int (sd + (2 : Int32))), (.int (2 : Int32)), (.ref b1), (.ref b1)])) _
    refine XT.i2b Xo16.here hx rfl (hb hby at_27) rfl ?_
    show Steps p.tables e below (T13.setTop (mkF m 28 #[.val (.int sd), .val (.int xs), .val (.int ys), .val (.int ws0), .val (.int hs), .val (.long pk), .second, .val (.int sd), .unset, .unset, .unset, .unset, .unset, .unset, .unset, .unset, .unset, .unset, .unset, .unset, .unset] [(.int ((sd + (2 : Int32)).toInt8.toInt32)), (.int (2 : Int32)), (.ref b1), (.ref b1)])) _
    exact k
  obtain ⟨cc19, Ar19, q1_19, Sz19, q3_19, Hs19, G19⟩ := id V13
  have hin19 : ¬ ((2 : Int32) < 0 ∨ cc19.slots.size ≤ ((2 : Int32) : Int32).toNatClampNeg) := inb_of Sz19 ⟨(by decide), (by decide)⟩
  obtain ⟨T19, h19, X19, e19, W19, st19⟩ := stB Xo16 hx hZ e13 Ar19 hin19 (g := (mkF m 28 #[.val (.int sd), .val (.int xs), .val (.int ys), .val (.int ws0), .val (.int hs), .val (.long pk), .second, .val (.int sd), .unset, .unset, .unset, .unset, .unset, .unset, .unset, .unset, .unset, .unset, .unset, .unset, .unset] [(.int ((sd + (2 : Int32)).toInt8.toInt32)), (.int (2 : Int32)), (.ref b1), (.ref b1)])) rfl rfl (hb hby at_28)
  have N19 := Fr.snoc X19 No16 g_b1
  have V19 : Arv Z h19 b1 cA3 .byte (48 : Int32) [(.int (nar .byte (sd.toInt8.toInt32))), (.int (nar .byte ((sd + (1 : Int32)).toInt8.toInt32))), (.int (nar .byte ((sd + (2 : Int32)).toInt8.toInt32))), (.int (0 : Int32)), (.int (0 : Int32)), (.int (0 : Int32)), (.int (0 : Int32)), (.int (0 : Int32)), (.int (0 : Int32)), (.int (0 : Int32)), (.int (0 : Int32)), (.int (0 : Int32)), (.int (0 : Int32)), (.int (0 : Int32)), (.int (0 : Int32)), (.int (0 : Int32)), (.int (0 : Int32)), (.int (0 : Int32)), (.int (0 : Int32)), (.int (0 : Int32)), (.int (0 : Int32)), (.int (0 : Int32)), (.int (0 : Int32)), (.int (0 : Int32)), (.int (0 : Int32)), (.int (0 : Int32)), (.int (0 : Int32)), (.int (0 : Int32)), (.int (0 : Int32)), (.int (0 : Int32)), (.int (0 : Int32)), (.int (0 : Int32)), (.int (0 : Int32)), (.int (0 : Int32)), (.int (0 : Int32)), (.int (0 : Int32)), (.int (0 : Int32)), (.int (0 : Int32)), (.int (0 : Int32)), (.int (0 : Int32)), (.int (0 : Int32)), (.int (0 : Int32)), (.int (0 : Int32)), (.int (0 : Int32)), (.int (0 : Int32)), (.int (0 : Int32)), (.int (0 : Int32)), (.int (0 : Int32))] (.int (0 : Int32)) := Arv.set Ar19 q1_19 Sz19 q3_19 Hs19 G19 (fits_nar_byte _) W19 2 (by decide) (show 2 < 48 by decide)
  have pre21 : ∀ t, Steps p.tables e below (T19.setTop (mkF m 29 #[.val (.int sd), .val (.int xs), .val (.int ys), .val (.int ws0), .val (.int hs), .val (.long pk), .second, .val (.int sd), .unset, .unset, .unset, .unset, .unset, .unset, .unset, .unset, .unset, .unset, .unset, .unset, .unset] [(.ref b1)])) t → Steps p.tables e below (s₁.setTop (entryFrame m #[(.int sd), (.int xs), (.int ys), (.int ws0), (.int hs), (.long pk)] maxLocals)) t := fun t k => pre18 t (st19 t k)
  obtain ⟨Lo22, Xo22, No22⟩ : ∃ L, Stand p l e room_1 s m #[(.int sd), (.int xs), (.int ys), (.int ws0), (.int hs), (.long pk)] below meth c T19 L 1 48 ∧ Fr n0 L := ⟨_, X19, N19⟩
  have E23_0 : Exa Z h19 b1 "[B" := (E17_0.wr W19)
  have Z23 : n0 ≤ h19.size := (Nat.le_trans Z17 (Nat.le_of_eq W19.size.symm))
  have pre24 : ∀ t, Steps p.tables e below (T19.setTop (mkF m 36 #[.val (.int sd), .val (.int xs), .val (.int ys), .val (.int ws0), .val (.int hs), .val (.long pk), .second, .val (.int sd), .unset, .unset, .unset, .unset, .unset, .unset, .unset, .unset, .unset, .unset, .unset, .unset, .unset] [(.int ((sd + (3 : Int32)).toInt8.toInt32)), (.int (3 : Int32)), (.ref b1), (.ref b1)])) t → Steps p.tables e below (s₁.setTop (entryFrame m #[(.int sd), (.int xs), (.int ys), (.int ws0), (.int hs), (.long pk)] maxLocals)) t := by
    intro t k
    refine pre21 t ?_
    refine XS.dup Xo22.here hx rfl (hb hby at_29) rfl rfl ?_
    show Steps p.tables e below (T19.setTop (mkF m 30 #[.val (.int sd), .val (.int xs), .val (.int ys), .val (.int ws0), .val (.int hs), .val (.long pk), .second, .val (.int sd), .unset, .unset, .unset, .unset, .unset, .unset, .unset, .unset, .unset, .unset, .unset, .unset, .unset] [(.ref b1), (.ref b1)])) _
    refine XS.iconst Xo22.here hx rfl (hb hby at_30) ?_
    show Steps p.tables e below (T19.setTop (mkF m 31 #[.val (.int sd), .val (.int xs), .val (.int ys), .val (.int ws0), .val (.int hs), .val (.long pk), .second, .val (.int sd), .unset, .unset, .unset, .unset, .unset, .unset, .unset, .unset, .unset, .unset, .unset, .unset, .unset] [(.int (3 : Int32)), (.ref b1), (.ref b1)])) _
    refine XS.iload Xo22.here hx rfl (hb hby at_31) rfl ?_
    show Steps p.tables e below (T19.setTop (mkF m 33 #[.val (.int sd), .val (.int xs), .val (.int ys), .val (.int ws0), .val (.int hs), .val (.long pk), .second, .val (.int sd), .unset, .unset, .unset, .unset, .unset, .unset, .unset, .unset, .unset, .unset, .unset, .unset, .unset] [(.int sd), (.int (3 : Int32)), (.ref b1), (.ref b1)])) _
    refine XS.iconst Xo22.here hx rfl (hb hby at_33) ?_
    show Steps p.tables e below (T19.setTop (mkF m 34 #[.val (.int sd), .val (.int xs), .val (.int ys), .val (.int ws0), .val (.int hs), .val (.long pk), .second, .val (.int sd), .unset, .unset, .unset, .unset, .unset, .unset, .unset, .unset, .unset, .unset, .unset, .unset, .unset] [(.int (3 : Int32)), (.int sd), (.int (3 : Int32)), (.ref b1), (.ref b1)])) _
    refine XS.iadd Xo22.here hx rfl (hb hby at_34) rfl ?_
    show Steps p.tables e below (T19.setTop (mkF m 35 #[.val (.int sd), .val (.int xs), .val (.int ys), .val (.int ws0), .val (.int hs), .val (.long pk), .second, .val (.int sd), .unset, .unset, .unset, .unset, .unset, .unset, .unset, .unset, .unset, .unset, .unset, .unset, .unset] [(.int (sd + (3 : Int32))), (.int (3 : Int32)), (.ref b1), (.ref b1)])) _
    refine XT.i2b Xo22.here hx rfl (hb hby at_35) rfl ?_
    show Steps p.tables e below (T19.setTop (mkF m 36 #[.val (.int sd), .val (.int xs), .val (.int ys), .val (.int ws0), .val (.int hs), .val (.long pk), .second, .val (.int sd), .unset, .unset, .unset, .unset, .unset, .unset, .unset, .unset, .unset, .unset, .unset, .unset, .unset] [(.int ((sd + (3 : Int32)).toInt8.toInt32)), (.int (3 : Int32)), (.ref b1), (.ref b1)])) _
    exact k
  obtain ⟨cc25, Ar25, q1_25, Sz25, q3_25, Hs25, G25⟩ := id V19
  have hin25 : ¬ ((3 : Int32) < 0 ∨ cc25.slots.size ≤ ((3 : Int32) : Int32).toNatClampNeg) := inb_of Sz25 ⟨(by decide), (by decide)⟩
  obtain ⟨T25, h25, X25, e25, W25, st25⟩ := stB Xo22 hx hZ e19 Ar25 hin25 (g := (mkF m 36 #[.val (.int sd), .val (.int xs), .val (.int ys), .val (.int ws0), .val (.int hs), .val (.long pk), .second, .val (.int sd), .unset, .unset, .unset, .unset, .unset, .unset, .unset, .unset, .unset, .unset, .unset, .unset, .unset] [(.int ((sd + (3 : Int32)).toInt8.toInt32)), (.int (3 : Int32)), (.ref b1), (.ref b1)])) rfl rfl (hb hby at_36)
  have N25 := Fr.snoc X25 No22 g_b1
  have V25 : Arv Z h25 b1 cA3 .byte (48 : Int32) [(.int (nar .byte (sd.toInt8.toInt32))), (.int (nar .byte ((sd + (1 : Int32)).toInt8.toInt32))), (.int (nar .byte ((sd + (2 : Int32)).toInt8.toInt32))), (.int (nar .byte ((sd + (3 : Int32)).toInt8.toInt32))), (.int (0 : Int32)), (.int (0 : Int32)), (.int (0 : Int32)), (.int (0 : Int32)), (.int (0 : Int32)), (.int (0 : Int32)), (.int (0 : Int32)), (.int (0 : Int32)), (.int (0 : Int32)), (.int (0 : Int32)), (.int (0 : Int32)), (.int (0 : Int32)), (.int (0 : Int32)), (.int (0 : Int32)), (.int (0 : Int32)), (.int (0 : Int32)), (.int (0 : Int32)), (.int (0 : Int32)), (.int (0 : Int32)), (.int (0 : Int32)), (.int (0 : Int32)), (.int (0 : Int32)), (.int (0 : Int32)), (.int (0 : Int32)), (.int (0 : Int32)), (.int (0 : Int32)), (.int (0 : Int32)), (.int (0 : Int32)), (.int (0 : Int32)), (.int (0 : Int32)), (.int (0 : Int32)), (.int (0 : Int32)), (.int (0 : Int32)), (.int (0 : Int32)), (.int (0 : Int32)), (.int (0 : Int32)), (.int (0 : Int32)), (.int (0 : Int32)), (.int (0 : Int32)), (.int (0 : Int32)), (.int (0 : Int32)), (.int (0 : Int32)), (.int (0 : Int32)), (.int (0 : Int32))] (.int (0 : Int32)) := Arv.set Ar25 q1_25 Sz25 q3_25 Hs25 G25 (fits_nar_byte _) W25 3 (by decide) (show 3 < 48 by decide)
  have pre27 : ∀ t, Steps p.tables e below (T25.setTop (mkF m 37 #[.val (.int sd), .val (.int xs), .val (.int ys), .val (.int ws0), .val (.int hs), .val (.long pk), .second, .val (.int sd), .unset, .unset, .unset, .unset, .unset, .unset, .unset, .unset, .unset, .unset, .unset, .unset, .unset] [(.ref b1)])) t → Steps p.tables e below (s₁.setTop (entryFrame m #[(.int sd), (.int xs), (.int ys), (.int ws0), (.int hs), (.long pk)] maxLocals)) t := fun t k => pre24 t (st25 t k)
  obtain ⟨Lo28, Xo28, No28⟩ : ∃ L, Stand p l e room_1 s m #[(.int sd), (.int xs), (.int ys), (.int ws0), (.int hs), (.long pk)] below meth c T25 L 1 48 ∧ Fr n0 L := ⟨_, X25, N25⟩
  have E29_0 : Exa Z h25 b1 "[B" := (E23_0.wr W25)
  have Z29 : n0 ≤ h25.size := (Nat.le_trans Z23 (Nat.le_of_eq W25.size.symm))
  have pre30 : ∀ t, Steps p.tables e below (T25.setTop (mkF m 44 #[.val (.int sd), .val (.int xs), .val (.int ys), .val (.int ws0), .val (.int hs), .val (.long pk), .second, .val (.int sd), .unset, .unset, .unset, .unset, .unset, .unset, .unset, .unset, .unset, .unset, .unset, .unset, .unset] [(.int ((sd + (4 : Int32)).toInt8.toInt32)), (.int (4 : Int32)), (.ref b1), (.ref b1)])) t → Steps p.tables e below (s₁.setTop (entryFrame m #[(.int sd), (.int xs), (.int ys), (.int ws0), (.int hs), (.long pk)] maxLocals)) t := by
    intro t k
    refine pre27 t ?_
    refine XS.dup Xo28.here hx rfl (hb hby at_37) rfl rfl ?_
    show Steps p.tables e below (T25.setTop (mkF m 38 #[.val (.int sd), .val (.int xs), .val (.int ys), .val (.int ws0), .val (.int hs), .val (.long pk), .second, .val (.int sd), .unset, .unset, .unset, .unset, .unset, .unset, .unset, .unset, .unset, .unset, .unset, .unset, .unset] [(.ref b1), (.ref b1)])) _
    refine XS.iconst Xo28.here hx rfl (hb hby at_38) ?_
    show Steps p.tables e below (T25.setTop (mkF m 39 #[.val (.int sd), .val (.int xs), .val (.int ys), .val (.int ws0), .val (.int hs), .val (.long pk), .second, .val (.int sd), .unset, .unset, .unset, .unset, .unset, .unset, .unset, .unset, .unset, .unset, .unset, .unset, .unset] [(.int (4 : Int32)), (.ref b1), (.ref b1)])) _
    refine XS.iload Xo28.here hx rfl (hb hby at_39) rfl ?_
    show Steps p.tables e below (T25.setTop (mkF m 41 #[.val (.int sd), .val (.int xs), .val (.int ys), .val (.int ws0), .val (.int hs), .val (.long pk), .second, .val (.int sd), .unset, .unset, .unset, .unset, .unset, .unset, .unset, .unset, .unset, .unset, .unset, .unset, .unset] [(.int sd), (.int (4 : Int32)), (.ref b1), (.ref b1)])) _
    refine XS.iconst Xo28.here hx rfl (hb hby at_41) ?_
    show Steps p.tables e below (T25.setTop (mkF m 42 #[.val (.int sd), .val (.int xs), .val (.int ys), .val (.int ws0), .val (.int hs), .val (.long pk), .second, .val (.int sd), .unset, .unset, .unset, .unset, .unset, .unset, .unset, .unset, .unset, .unset, .unset, .unset, .unset] [(.int (4 : Int32)), (.int sd), (.int (4 : Int32)), (.ref b1), (.ref b1)])) _
    refine XS.iadd Xo28.here hx rfl (hb hby at_42) rfl ?_
    show Steps p.tables e below (T25.setTop (mkF m 43 #[.val (.int sd), .val (.int xs), .val (.int ys), .val (.int ws0), .val (.int hs), .val (.long pk), .second, .val (.int sd), .unset, .unset, .unset, .unset, .unset, .unset, .unset, .unset, .unset, .unset, .unset, .unset, .unset] [(.int (sd + (4 : Int32))), (.int (4 : Int32)), (.ref b1), (.ref b1)])) _
    refine XT.i2b Xo28.here hx rfl (hb hby at_43) rfl ?_
    show Steps p.tables e below (T25.setTop (mkF m 44 #[.val (.int sd), .val (.int xs), .val (.int ys), .val (.int ws0), .val (.int hs), .val (.long pk), .second, .val (.int sd), .unset, .unset, .unset, .unset, .unset, .unset, .unset, .unset, .unset, .unset, .unset, .unset, .unset] [(.int ((sd + (4 : Int32)).toInt8.toInt32)), (.int (4 : Int32)), (.ref b1), (.ref b1)])) _
    exact k
  obtain ⟨cc31, Ar31, q1_31, Sz31, q3_31, Hs31, G31⟩ := id V25
  have hin31 : ¬ ((4 : Int32) < 0 ∨ cc31.slots.size ≤ ((4 : Int32) : Int32).toNatClampNeg) := inb_of Sz31 ⟨(by decide), (by decide)⟩
  obtain ⟨T31, h31, X31, e31, W31, st31⟩ := stB Xo28 hx hZ e25 Ar31 hin31 (g := (mkF m 44 #[.val (.int sd), .val (.int xs), .val (.int ys), .val (.int ws0), .val (.int hs), .val (.long pk), .second, .val (.int sd), .unset, .unset, .unset, .unset, .unset, .unset, .unset, .unset, .unset, .unset, .unset, .unset, .unset] [(.int ((sd + (4 : Int32)).toInt8.toInt32)), (.int (4 : Int32)), (.ref b1), (.ref b1)])) rfl rfl (hb hby at_44)
  have N31 := Fr.snoc X31 No28 g_b1
  have V31 : Arv Z h31 b1 cA3 .byte (48 : Int32) [(.int (nar .byte (sd.toInt8.toInt32))), (.int (nar .byte ((sd + (1 : Int32)).toInt8.toInt32))), (.int (nar .byte ((sd + (2 : Int32)).toInt8.toInt32))), (.int (nar .byte ((sd + (3 : Int32)).toInt8.toInt32))), (.int (nar .byte ((sd + (4 : Int32)).toInt8.toInt32))), (.int (0 : Int32)), (.int (0 : Int32)), (.int (0 : Int32)), (.int (0 : Int32)), (.int (0 : Int32)), (.int (0 : Int32)), (.int (0 : Int32)), (.int (0 : Int32)), (.int (0 : Int32)), (.int (0 : Int32)), (.int (0 : Int32)), (.int (0 : Int32)), (.int (0 : Int32)), (.int (0 : Int32)), (.int (0 : Int32)), (.int (0 : Int32)), (.int (0 : Int32)), (.int (0 : Int32)), (.int (0 : Int32)), (.int (0 : Int32)), (.int (0 : Int32)), (.int (0 : Int32)), (.int (0 : Int32)), (.int (0 : Int32)), (.int (0 : Int32)), (.int (0 : Int32)), (.int (0 : Int32)), (.int (0 : Int32)), (.int (0 : Int32)), (.int (0 : Int32)), (.int (0 : Int32)), (.int (0 : Int32)), (.int (0 : Int32)), (.int (0 : Int32)), (.int (0 : Int32)), (.int (0 : Int32)), (.int (0 : Int32)), (.int (0 : Int32)), (.int (0 : Int32)), (.int (0 : Int32)), (.int (0 : Int32)), (.int (0 : Int32)), (.int (0 : Int32))] (.int (0 : Int32)) := Arv.set Ar31 q1_31 Sz31 q3_31 Hs31 G31 (fits_nar_byte _) W31 4 (by decide) (show 4 < 48 by decide)
  have pre33 : ∀ t, Steps p.tables e below (T31.setTop (mkF m 45 #[.val (.int sd), .val (.int xs), .val (.int ys), .val (.int ws0), .val (.int hs), .val (.long pk), .second, .val (.int sd), .unset, .unset, .unset, .unset, .unset, .unset, .unset, .unset, .unset, .unset, .unset, .unset, .unset] [(.ref b1)])) t → Steps p.tables e below (s₁.setTop (entryFrame m #[(.int sd), (.int xs), (.int ys), (.int ws0), (.int hs), (.long pk)] maxLocals)) t := fun t k => pre30 t (st31 t k)
  obtain ⟨Lo34, Xo34, No34⟩ : ∃ L, Stand p l e room_1 s m #[(.int sd), (.int xs), (.int ys), (.int ws0), (.int hs), (.long pk)] below meth c T31 L 1 48 ∧ Fr n0 L := ⟨_, X31, N31⟩
  have E35_0 : Exa Z h31 b1 "[B" := (E29_0.wr W31)
  have Z35 : n0 ≤ h31.size := (Nat.le_trans Z29 (Nat.le_of_eq W31.size.symm))
  have pre36 : ∀ t, Steps p.tables e below (T31.setTop (mkF m 52 #[.val (.int sd), .val (.int xs), .val (.int ys), .val (.int ws0), .val (.int hs), .val (.long pk), .second, .val (.int sd), .unset, .unset, .unset, .unset, .unset, .unset, .unset, .unset, .unset, .unset, .unset, .unset, .unset] [(.int ((sd + (5 : Int32)).toInt8.toInt32)), (.int (5 : Int32)), (.ref b1), (.ref b1)])) t → Steps p.tables e below (s₁.setTop (entryFrame m #[(.int sd), (.int xs), (.int ys), (.int ws0), (.int hs), (.long pk)] maxLocals)) t := by
    intro t k
    refine pre33 t ?_
    refine XS.dup Xo34.here hx rfl (hb hby at_45) rfl rfl ?_
    show Steps p.tables e below (T31.setTop (mkF m 46 #[.val (.int sd), .val (.int xs), .val (.int ys), .val (.int ws0), .val (.int hs), .val (.long pk), .second, .val (.int sd), .unset, .unset, .unset, .unset, .unset, .unset, .unset, .unset, .unset, .unset, .unset, .unset, .unset] [(.ref b1), (.ref b1)])) _
    refine XS.iconst Xo34.here hx rfl (hb hby at_46) ?_
    show Steps p.tables e below (T31.setTop (mkF m 47 #[.val (.int sd), .val (.int xs), .val (.int ys), .val (.int ws0), .val (.int hs), .val (.long pk), .second, .val (.int sd), .unset, .unset, .unset, .unset, .unset, .unset, .unset, .unset, .unset, .unset, .unset, .unset, .unset] [(.int (5 : Int32)), (.ref b1), (.ref b1)])) _
    refine XS.iload Xo34.here hx rfl (hb hby at_47) rfl ?_
    show Steps p.tables e below (T31.setTop (mkF m 49 #[.val (.int sd), .val (.int xs), .val (.int ys), .val (.int ws0), .val (.int hs), .val (.long pk), .second, .val (.int sd), .unset, .unset, .unset, .unset, .unset, .unset, .unset, .unset, .unset, .unset, .unset, .unset, .unset] [(.int sd), (.int (5 : Int32)), (.ref b1), (.ref b1)])) _
    refine XS.iconst Xo34.here hx rfl (hb hby at_49) ?_
    show Steps p.tables e below (T31.setTop (mkF m 50 #[.val (.int sd), .val (.int xs), .val (.int ys), .val (.int ws0), .val (.int hs), .val (.long pk), .second, .val (.int sd), .unset, .unset, .unset, .unset, .unset, .unset, .unset, .unset, .unset, .unset, .unset, .unset, .unset] [(.int (5 : Int32)), (.int sd), (.int (5 : Int32)), (.ref b1), (.ref b1)])) _
    refine XS.iadd Xo34.here hx rfl (hb hby at_50) rfl ?_
    show Steps p.tables e below (T31.setTop (mkF m 51 #[.val (.int sd), .val (.int xs), .val (.int ys), .val (.int ws0), .val (.int hs), .val (.long pk), .second, .val (.int sd), .unset, .unset, .unset, .unset, .unset, .unset, .unset, .unset, .unset, .unset, .unset, .unset, .unset] [(.int (sd + (5 : Int32))), (.int (5 : Int32)), (.ref b1), (.ref b1)])) _
    refine XT.i2b Xo34.here hx rfl (hb hby at_51) rfl ?_
    show Steps p.tables e below (T31.setTop (mkF m 52 #[.val (.int sd), .val (.int xs), .val (.int ys), .val (.int ws0), .val (.int hs), .val (.long pk), .second, .val (.int sd), .unset, .unset, .unset, .unset, .unset, .unset, .unset, .unset, .unset, .unset, .unset, .unset, .unset] [(.int ((sd + (5 : Int32)).toInt8.toInt32)), (.int (5 : Int32)), (.ref b1), (.ref b1)])) _
    exact k
  obtain ⟨cc37, Ar37, q1_37, Sz37, q3_37, Hs37, G37⟩ := id V31
  have hin37 : ¬ ((5 : Int32) < 0 ∨ cc37.slots.size ≤ ((5 : Int32) : Int32).toNatClampNeg) := inb_of Sz37 ⟨(by decide), (by decide)⟩
  obtain ⟨T37, h37, X37, e37, W37, st37⟩ := stB Xo34 hx hZ e31 Ar37 hin37 (g := (mkF m 52 #[.val (.int sd), .val (.int xs), .val (.int ys), .val (.int ws0), .val (.int hs), .val (.long pk), .second, .val (.int sd), .unset, .unset, .unset, .unset, .unset, .unset, .unset, .unset, .unset, .unset, .unset, .unset, .unset] [(.int ((sd + (5 : Int32)).toInt8.toInt32)), (.int (5 : Int32)), (.ref b1), (.ref b1)])) rfl rfl (hb hby at_52)
  have N37 := Fr.snoc X37 No34 g_b1
  have V37 : Arv Z h37 b1 cA3 .byte (48 : Int32) [(.int (nar .byte (sd.toInt8.toInt32))), (.int (nar .byte ((sd + (1 : Int32)).toInt8.toInt32))), (.int (nar .byte ((sd + (2 : Int32)).toInt8.toInt32))), (.int (nar .byte ((sd + (3 : Int32)).toInt8.toInt32))), (.int (nar .byte ((sd + (4 : Int32)).toInt8.toInt32))), (.int (nar .byte ((sd + (5 : Int32)).toInt8.toInt32))), (.int (0 : Int32)), (.int (0 : Int32)), (.int (0 : Int32)), (.int (0 : Int32)), (.int (0 : Int32)), (.int (0 : Int32)), (.int (0 : Int32)), (.int (0 : Int32)), (.int (0 : Int32)), (.int (0 : Int32)), (.int (0 : Int32)), (.int (0 : Int32)), (.int (0 : Int32)), (.int (0 : Int32)), (.int (0 : Int32)), (.int (0 : Int32)), (.int (0 : Int32)), (.int (0 : Int32)), (.int (0 : Int32)), (.int (0 : Int32)), (.int (0 : Int32)), (.int (0 : Int32)), (.int (0 : Int32)), (.int (0 : Int32)), (.int (0 : Int32)), (.int (0 : Int32)), (.int (0 : Int32)), (.int (0 : Int32)), (.int (0 : Int32)), (.int (0 : Int32)), (.int (0 : Int32)), (.int (0 : Int32)), (.int (0 : Int32)), (.int (0 : Int32)), (.int (0 : Int32)), (.int (0 : Int32)), (.int (0 : Int32)), (.int (0 : Int32)), (.int (0 : Int32)), (.int (0 : Int32)), (.int (0 : Int32)), (.int (0 : Int32))] (.int (0 : Int32)) := Arv.set Ar37 q1_37 Sz37 q3_37 Hs37 G37 (fits_nar_byte _) W37 5 (by decide) (show 5 < 48 by decide)
  have pre39 : ∀ t, Steps p.tables e below (T37.setTop (mkF m 53 #[.val (.int sd), .val (.int xs), .val (.int ys), .val (.int ws0), .val (.int hs), .val (.long pk), .second, .val (.int sd), .unset, .unset, .unset, .unset, .unset, .unset, .unset, .unset, .unset, .unset, .unset, .unset, .unset] [(.ref b1)])) t → Steps p.tables e below (s₁.setTop (entryFrame m #[(.int sd), (.int xs), (.int ys), (.int ws0), (.int hs), (.long pk)] maxLocals)) t := fun t k => pre36 t (st37 t k)
  obtain ⟨Lo40, Xo40, No40⟩ : ∃ L, Stand p l e room_1 s m #[(.int sd), (.int xs), (.int ys), (.int ws0), (.int hs), (.long pk)] below meth c T37 L 1 48 ∧ Fr n0 L := ⟨_, X37, N37⟩
  have E41_0 : Exa Z h37 b1 "[B" := (E35_0.wr W37)
  have Z41 : n0 ≤ h37.size := (Nat.le_trans Z35 (Nat.le_of_eq W37.size.symm))
  have pre42 : ∀ t, Steps p.tables e below (T37.setTop (mkF m 62 #[.val (.int sd), .val (.int xs), .val (.int ys), .val (.int ws0), .val (.int hs), .val (.long pk), .second, .val (.int sd), .unset, .unset, .unset, .unset, .unset, .unset, .unset, .unset, .unset, .unset, .unset, .unset, .unset] [(.int ((sd + (6 : Int32)).toInt8.toInt32)), (.int (6 : Int32)), (.ref b1), (.ref b1)])) t → Steps p.tables e below (s₁.setTop (entryFrame m #[(.int sd), (.int xs), (.int ys), (.int ws0), (.int hs), (.long pk)] maxLocals)) t := by
    intro t k
    refine pre39 t ?_
    refine XS.dup Xo40.here hx rfl (hb hby at_53) rfl rfl ?_
    show Steps p.tables e below (T37.setTop (mkF m 54 #[.val (.int sd), .val (.int xs), .val (.int ys), .val (.int ws0), .val (.int hs), .val (.long pk), .second, .val (.int sd), .unset, .unset, .unset, .unset, .unset, .unset, .unset, .unset, .unset, .unset, .unset, .unset, .unset] [(.ref b1), (.ref b1)])) _
    refine XS.bipush Xo40.here hx rfl (hb hby at_54) ?_
    show Steps p.tables e below (T37.setTop (mkF m 56 #[.val (.int sd), .val (.int xs), .val (.int ys), .val (.int ws0), .val (.int hs), .val (.long pk), .second, .val (.int sd), .unset, .unset, .unset, .unset, .unset, .unset, .unset, .unset, .unset, .unset, .unset, .unset, .unset] [(.int (6 : Int32)), (.ref b1), (.ref b1)])) _
    refine XS.iload Xo40.here hx rfl (hb hby at_56) rfl ?_
    show Steps p.tables e below (T37.setTop (mkF m 58 #[.val (.int sd), .val (.int xs), .val (.int ys), .val (.int ws0), .val (.int hs), .val (.long pk), .second, .val (.int sd), .unset, .unset, .unset, .unset, .unset, .unset, .unset, .unset, .unset, .unset, .unset, .unset, .unset] [(.int sd), (.int (6 : Int32)), (.ref b1), (.ref b1)])) _
    refine XS.bipush Xo40.here hx rfl (hb hby at_58) ?_
    show Steps p.tables e below (T37.setTop (mkF m 60 #[.val (.int sd), .val (.int xs), .val (.int ys), .val (.int ws0), .val (.int hs), .val (.long pk), .second, .val (.int sd), .unset, .unset, .unset, .unset, .unset, .unset, .unset, .unset, .unset, .unset, .unset, .unset, .unset] [(.int (6 : Int32)), (.int sd), (.int (6 : Int32)), (.ref b1), (.ref b1)])) _
    refine XS.iadd Xo40.here hx rfl (hb hby at_60) rfl ?_
    show Steps p.tables e below (T37.setTop (mkF m 61 #[.val (.int sd), .val (.int xs), .val (.int ys), .val (.int ws0), .val (.int hs), .val (.long pk), .second, .val (.int sd), .unset, .unset, .unset, .unset, .unset, .unset, .unset, .unset, .unset, .unset, .unset, .unset, .unset] [(.int (sd + (6 : Int32))), (.int (6 : Int32)), (.ref b1), (.ref b1)])) _
    refine XT.i2b Xo40.here hx rfl (hb hby at_61) rfl ?_
    show Steps p.tables e below (T37.setTop (mkF m 62 #[.val (.int sd), .val (.int xs), .val (.int ys), .val (.int ws0), .val (.int hs), .val (.long pk), .second, .val (.int sd), .unset, .unset, .unset, .unset, .unset, .unset, .unset, .unset, .unset, .unset, .unset, .unset, .unset] [(.int ((sd + (6 : Int32)).toInt8.toInt32)), (.int (6 : Int32)), (.ref b1), (.ref b1)])) _
    exact k
  obtain ⟨cc43, Ar43, q1_43, Sz43, q3_43, Hs43, G43⟩ := id V37
  have hin43 : ¬ ((6 : Int32) < 0 ∨ cc43.slots.size ≤ ((6 : Int32) : Int32).toNatClampNeg) := inb_of Sz43 ⟨(by decide), (by decide)⟩
  obtain ⟨T43, h43, X43, e43, W43, st43⟩ := stB Xo40 hx hZ e37 Ar43 hin43 (g := (mkF m 62 #[.val (.int sd), .val (.int xs), .val (.int ys), .val (.int ws0), .val (.int hs), .val (.long pk), .second, .val (.int sd), .unset, .unset, .unset, .unset, .unset, .unset, .unset, .unset, .unset, .unset, .unset, .unset, .unset] [(.int ((sd + (6 : Int32)).toInt8.toInt32)), (.int (6 : Int32)), (.ref b1), (.ref b1)])) rfl rfl (hb hby at_62)
  have N43 := Fr.snoc X43 No40 g_b1
  have V43 : Arv Z h43 b1 cA3 .byte (48 : Int32) [(.int (nar .byte (sd.toInt8.toInt32))), (.int (nar .byte ((sd + (1 : Int32)).toInt8.toInt32))), (.int (nar .byte ((sd + (2 : Int32)).toInt8.toInt32))), (.int (nar .byte ((sd + (3 : Int32)).toInt8.toInt32))), (.int (nar .byte ((sd + (4 : Int32)).toInt8.toInt32))), (.int (nar .byte ((sd + (5 : Int32)).toInt8.toInt32))), (.int (nar .byte ((sd + (6 : Int32)).toInt8.toInt32))), (.int (0 : Int32)), (.int (0 : Int32)), (.int (0 : Int32)), (.int (0 : Int32)), (.int (0 : Int32)), (.int (0 : Int32)), (.int (0 : Int32)), (.int (0 : Int32)), (.int (0 : Int32)), (.int (0 : Int32)), (.int (0 : Int32)), (.int (0 : Int32)), (.int (0 : Int32)), (.int (0 : Int32)), (.int (0 : Int32)), (.int (0 : Int32)), (.int (0 : Int32)), (.int (0 : Int32)), (.int (0 : Int32)), (.int (0 : Int32)), (.int (0 : Int32)), (.int (0 : Int32)), (.int (0 : Int32)), (.int (0 : Int32)), (.int (0 : Int32)), (.int (0 : Int32)), (.int (0 : Int32)), (.int (0 : Int32)), (.int (0 : Int32)), (.int (0 : Int32)), (.int (0 : Int32)), (.int (0 : Int32)), (.int (0 : Int32)), (.int (0 : Int32)), (.int (0 : Int32)), (.int (0 : Int32)), (.int (0 : Int32)), (.int (0 : Int32)), (.int (0 : Int32)), (.int (0 : Int32)), (.int (0 : Int32))] (.int (0 : Int32)) := Arv.set Ar43 q1_43 Sz43 q3_43 Hs43 G43 (fits_nar_byte _) W43 6 (by decide) (show 6 < 48 by decide)
  have pre45 : ∀ t, Steps p.tables e below (T43.setTop (mkF m 63 #[.val (.int sd), .val (.int xs), .val (.int ys), .val (.int ws0), .val (.int hs), .val (.long pk), .second, .val (.int sd), .unset, .unset, .unset, .unset, .unset, .unset, .unset, .unset, .unset, .unset, .unset, .unset, .unset] [(.ref b1)])) t → Steps p.tables e below (s₁.setTop (entryFrame m #[(.int sd), (.int xs), (.int ys), (.int ws0), (.int hs), (.long pk)] maxLocals)) t := fun t k => pre42 t (st43 t k)
  obtain ⟨Lo46, Xo46, No46⟩ : ∃ L, Stand p l e room_1 s m #[(.int sd), (.int xs), (.int ys), (.int ws0), (.int hs), (.long pk)] below meth c T43 L 1 48 ∧ Fr n0 L := ⟨_, X43, N43⟩
  have E47_0 : Exa Z h43 b1 "[B" := (E41_0.wr W43)
  have Z47 : n0 ≤ h43.size := (Nat.le_trans Z41 (Nat.le_of_eq W43.size.symm))
  have pre48 : ∀ t, Steps p.tables e below (T43.setTop (mkF m 72 #[.val (.int sd), .val (.int xs), .val (.int ys), .val (.int ws0), .val (.int hs), .val (.long pk), .second, .val (.int sd), .unset, .unset, .unset, .unset, .unset, .unset, .unset, .unset, .unset, .unset, .unset, .unset, .unset] [(.int ((sd + (7 : Int32)).toInt8.toInt32)), (.int (7 : Int32)), (.ref b1), (.ref b1)])) t → Steps p.tables e below (s₁.setTop (entryFrame m #[(.int sd), (.int xs), (.int ys), (.int ws0), (.int hs), (.long pk)] maxLocals)) t := by
    intro t k
    refine pre45 t ?_
    refine XS.dup Xo46.here hx rfl (hb hby at_63) rfl rfl ?_
    show Steps p.tables e below (T43.setTop (mkF m 64 #[.val (.int sd), .val (.int xs), .val (.int ys), .val (.int ws0), .val (.int hs), .val (.long pk), .second, .val (.int sd), .unset, .unset, .unset, .unset, .unset, .unset, .unset, .unset, .unset, .unset, .unset, .unset, .unset] [(.ref b1), (.ref b1)])) _
    refine XS.bipush Xo46.here hx rfl (hb hby at_64) ?_
    show Steps p.tables e below (T43.setTop (mkF m 66 #[.val (.int sd), .val (.int xs), .val (.int ys), .val (.int ws0), .val (.int hs), .val (.long pk), .second, .val (.int sd), .unset, .unset, .unset, .unset, .unset, .unset, .unset, .unset, .unset, .unset, .unset, .unset, .unset] [(.int (7 : Int32)), (.ref b1), (.ref b1)])) _
    refine XS.iload Xo46.here hx rfl (hb hby at_66) rfl ?_
    show Steps p.tables e below (T43.setTop (mkF m 68 #[.val (.int sd), .val (.int xs), .val (.int ys), .val (.int ws0), .val (.int hs), .val (.long pk), .second, .val (.int sd), .unset, .unset, .unset, .unset, .unset, .unset, .unset, .unset, .unset, .unset, .unset, .unset, .unset] [(.int sd), (.int (7 : Int32)), (.ref b1), (.ref b1)])) _
    refine XS.bipush Xo46.here hx rfl (hb hby at_68) ?_
    show Steps p.tables e below (T43.setTop (mkF m 70 #[.val (.int sd), .val (.int xs), .val (.int ys), .val (.int ws0), .val (.int hs), .val (.long pk), .second, .val (.int sd), .unset, .unset, .unset, .unset, .unset, .unset, .unset, .unset, .unset, .unset, .unset, .unset, .unset] [(.int (7 : Int32)), (.int sd), (.int (7 : Int32)), (.ref b1), (.ref b1)])) _
    refine XS.iadd Xo46.here hx rfl (hb hby at_70) rfl ?_
    show Steps p.tables e below (T43.setTop (mkF m 71 #[.val (.int sd), .val (.int xs), .val (.int ys), .val (.int ws0), .val (.int hs), .val (.long pk), .second, .val (.int sd), .unset, .unset, .unset, .unset, .unset, .unset, .unset, .unset, .unset, .unset, .unset, .unset, .unset] [(.int (sd + (7 : Int32))), (.int (7 : Int32)), (.ref b1), (.ref b1)])) _
    refine XT.i2b Xo46.here hx rfl (hb hby at_71) rfl ?_
    show Steps p.tables e below (T43.setTop (mkF m 72 #[.val (.int sd), .val (.int xs), .val (.int ys), .val (.int ws0), .val (.int hs), .val (.long pk), .second, .val (.int sd), .unset, .unset, .unset, .unset, .unset, .unset, .unset, .unset, .unset, .unset, .unset, .unset, .unset] [(.int ((sd + (7 : Int32)).toInt8.toInt32)), (.int (7 : Int32)), (.ref b1), (.ref b1)])) _
    exact k
  obtain ⟨cc49, Ar49, q1_49, Sz49, q3_49, Hs49, G49⟩ := id V43
  have hin49 : ¬ ((7 : Int32) < 0 ∨ cc49.slots.size ≤ ((7 : Int32) : Int32).toNatClampNeg) := inb_of Sz49 ⟨(by decide), (by decide)⟩
  obtain ⟨T49, h49, X49, e49, W49, st49⟩ := stB Xo46 hx hZ e43 Ar49 hin49 (g := (mkF m 72 #[.val (.int sd), .val (.int xs), .val (.int ys), .val (.int ws0), .val (.int hs), .val (.long pk), .second, .val (.int sd), .unset, .unset, .unset, .unset, .unset, .unset, .unset, .unset, .unset, .unset, .unset, .unset, .unset] [(.int ((sd + (7 : Int32)).toInt8.toInt32)), (.int (7 : Int32)), (.ref b1), (.ref b1)])) rfl rfl (hb hby at_72)
  have N49 := Fr.snoc X49 No46 g_b1
  have V49 : Arv Z h49 b1 cA3 .byte (48 : Int32) [(.int (nar .byte (sd.toInt8.toInt32))), (.int (nar .byte ((sd + (1 : Int32)).toInt8.toInt32))), (.int (nar .byte ((sd + (2 : Int32)).toInt8.toInt32))), (.int (nar .byte ((sd + (3 : Int32)).toInt8.toInt32))), (.int (nar .byte ((sd + (4 : Int32)).toInt8.toInt32))), (.int (nar .byte ((sd + (5 : Int32)).toInt8.toInt32))), (.int (nar .byte ((sd + (6 : Int32)).toInt8.toInt32))), (.int (nar .byte ((sd + (7 : Int32)).toInt8.toInt32))), (.int (0 : Int32)), (.int (0 : Int32)), (.int (0 : Int32)), (.int (0 : Int32)), (.int (0 : Int32)), (.int (0 : Int32)), (.int (0 : Int32)), (.int (0 : Int32)), (.int (0 : Int32)), (.int (0 : Int32)), (.int (0 : Int32)), (.int (0 : Int32)), (.int (0 : Int32)), (.int (0 : Int32)), (.int (0 : Int32)), (.int (0 : Int32)), (.int (0 : Int32)), (.int (0 : Int32)), (.int (0 : Int32)), (.int (0 : Int32)), (.int (0 : Int32)), (.int (0 : Int32)), (.int (0 : Int32)), (.int (0 : Int32)), (.int (0 : Int32)), (.int (0 : Int32)), (.int (0 : Int32)), (.int (0 : Int32)), (.int (0 : Int32)), (.int (0 : Int32)), (.int (0 : Int32)), (.int (0 : Int32)), (.int (0 : Int32)), (.int (0 : Int32)), (.int (0 : Int32)), (.int (0 : Int32)), (.int (0 : Int32)), (.int (0 : Int32)), (.int (0 : Int32)), (.int (0 : Int32))] (.int (0 : Int32)) := Arv.set Ar49 q1_49 Sz49 q3_49 Hs49 G49 (fits_nar_byte _) W49 7 (by decide) (show 7 < 48 by decide)
  have pre51 : ∀ t, Steps p.tables e below (T49.setTop (mkF m 73 #[.val (.int sd), .val (.int xs), .val (.int ys), .val (.int ws0), .val (.int hs), .val (.long pk), .second, .val (.int sd), .unset, .unset, .unset, .unset, .unset, .unset, .unset, .unset, .unset, .unset, .unset, .unset, .unset] [(.ref b1)])) t → Steps p.tables e below (s₁.setTop (entryFrame m #[(.int sd), (.int xs), (.int ys), (.int ws0), (.int hs), (.long pk)] maxLocals)) t := fun t k => pre48 t (st49 t k)
  obtain ⟨Lo52, Xo52, No52⟩ : ∃ L, Stand p l e room_1 s m #[(.int sd), (.int xs), (.int ys), (.int ws0), (.int hs), (.long pk)] below meth c T49 L 1 48 ∧ Fr n0 L := ⟨_, X49, N49⟩
  have E53_0 : Exa Z h49 b1 "[B" := (E47_0.wr W49)
  have Z53 : n0 ≤ h49.size := (Nat.le_trans Z47 (Nat.le_of_eq W49.size.symm))
  have pre54 : ∀ t, Steps p.tables e below (T49.setTop (mkF m 82 #[.val (.int sd), .val (.int xs), .val (.int ys), .val (.int ws0), .val (.int hs), .val (.long pk), .second, .val (.int sd), .unset, .unset, .unset, .unset, .unset, .unset, .unset, .unset, .unset, .unset, .unset, .unset, .unset] [(.int ((sd + (8 : Int32)).toInt8.toInt32)), (.int (8 : Int32)), (.ref b1), (.ref b1)])) t → Steps p.tables e below (s₁.setTop (entryFrame m #[(.int sd), (.int xs), (.int ys), (.int ws0), (.int hs), (.long pk)] maxLocals)) t := by
    intro t k
    refine pre51 t ?_
    refine XS.dup Xo52.here hx rfl (hb hby at_73) rfl rfl ?_
    show Steps p.tables e below (T49.setTop (mkF m 74 #[.val (.int sd), .val (.int xs), .val (.int ys), .val (.int ws0), .val (.int hs), .val (.long pk), .second, .val (.int sd), .unset, .unset, .unset, .unset, .unset, .unset, .unset, .unset, .unset, .unset, .unset, .unset, .unset] [(.ref b1), (.ref b1)])) _
    refine XS.bipush Xo52.here hx rfl (hb hby at_74) ?_
    show Steps p.tables e below (T49.setTop (mkF m 76 #[.val (.int sd), .val (.int xs), .val (.int ys), .val (.int ws0), .val (.int hs), .val (.long pk), .second, .val (.int sd), .unset, .unset, .unset, .unset, .unset, .unset, .unset, .unset, .unset, .unset, .unset, .unset, .unset] [(.int (8 : Int32)), (.ref b1), (.ref b1)])) _
    refine XS.iload Xo52.here hx rfl (hb hby at_76) rfl ?_
    show Steps p.tables e below (T49.setTop (mkF m 78 #[.val (.int sd), .val (.int xs), .val (.int ys), .val (.int ws0), .val (.int hs), .val (.long pk), .second, .val (.int sd), .unset, .unset, .unset, .unset, .unset, .unset, .unset, .unset, .unset, .unset, .unset, .unset, .unset] [(.int sd), (.int (8 : Int32)), (.ref b1), (.ref b1)])) _
    refine XS.bipush Xo52.here hx rfl (hb hby at_78) ?_
    show Steps p.tables e below (T49.setTop (mkF m 80 #[.val (.int sd), .val (.int xs), .val (.int ys), .val (.int ws0), .val (.int hs), .val (.long pk), .second, .val (.int sd), .unset, .unset, .unset, .unset, .unset, .unset, .unset, .unset, .unset, .unset, .unset, .unset, .unset] [(.int (8 : Int32)), (.int sd), (.int (8 : Int32)), (.ref b1), (.ref b1)])) _
    refine XS.iadd Xo52.here hx rfl (hb hby at_80) rfl ?_
    show Steps p.tables e below (T49.setTop (mkF m 81 #[.val (.int sd), .val (.int xs), .val (.int ys), .val (.int ws0), .val (.int hs), .val (.long pk), .second, .val (.int sd), .unset, .unset, .unset, .unset, .unset, .unset, .unset, .unset, .unset, .unset, .unset, .unset, .unset] [(.int (sd + (8 : Int32))), (.int (8 : Int32)), (.ref b1), (.ref b1)])) _
    refine XT.i2b Xo52.here hx rfl (hb hby at_81) rfl ?_
    show Steps p.tables e below (T49.setTop (mkF m 82 #[.val (.int sd), .val (.int xs), .val (.int ys), .val (.int ws0), .val (.int hs), .val (.long pk), .second, .val (.int sd), .unset, .unset, .unset, .unset, .unset, .unset, .unset, .unset, .unset, .unset, .unset, .unset, .unset] [(.int ((sd + (8 : Int32)).toInt8.toInt32)), (.int (8 : Int32)), (.ref b1), (.ref b1)])) _
    exact k
  obtain ⟨cc55, Ar55, q1_55, Sz55, q3_55, Hs55, G55⟩ := id V49
  have hin55 : ¬ ((8 : Int32) < 0 ∨ cc55.slots.size ≤ ((8 : Int32) : Int32).toNatClampNeg) := inb_of Sz55 ⟨(by decide), (by decide)⟩
  obtain ⟨T55, h55, X55, e55, W55, st55⟩ := stB Xo52 hx hZ e49 Ar55 hin55 (g := (mkF m 82 #[.val (.int sd), .val (.int xs), .val (.int ys), .val (.int ws0), .val (.int hs), .val (.long pk), .second, .val (.int sd), .unset, .unset, .unset, .unset, .unset, .unset, .unset, .unset, .unset, .unset, .unset, .unset, .unset] [(.int ((sd + (8 : Int32)).toInt8.toInt32)), (.int (8 : Int32)), (.ref b1), (.ref b1)])) rfl rfl (hb hby at_82)
  have N55 := Fr.snoc X55 No52 g_b1
  have V55 : Arv Z h55 b1 cA3 .byte (48 : Int32) [(.int (nar .byte (sd.toInt8.toInt32))), (.int (nar .byte ((sd + (1 : Int32)).toInt8.toInt32))), (.int (nar .byte ((sd + (2 : Int32)).toInt8.toInt32))), (.int (nar .byte ((sd + (3 : Int32)).toInt8.toInt32))), (.int (nar .byte ((sd + (4 : Int32)).toInt8.toInt32))), (.int (nar .byte ((sd + (5 : Int32)).toInt8.toInt32))), (.int (nar .byte ((sd + (6 : Int32)).toInt8.toInt32))), (.int (nar .byte ((sd + (7 : Int32)).toInt8.toInt32))), (.int (nar .byte ((sd + (8 : Int32)).toInt8.toInt32))), (.int (0 : Int32)), (.int (0 : Int32)), (.int (0 : Int32)), (.int (0 : Int32)), (.int (0 : Int32)), (.int (0 : Int32)), (.int (0 : Int32)), (.int (0 : Int32)), (.int (0 : Int32)), (.int (0 : Int32)), (.int (0 : Int32)), (.int (0 : Int32)), (.int (0 : Int32)), (.int (0 : Int32)), (.int (0 : Int32)), (.int (0 : Int32)), (.int (0 : Int32)), (.int (0 : Int32)), (.int (0 : Int32)), (.int (0 : Int32)), (.int (0 : Int32)), (.int (0 : Int32)), (.int (0 : Int32)), (.int (0 : Int32)), (.int (0 : Int32)), (.int (0 : Int32)), (.int (0 : Int32)), (.int (0 : Int32)), (.int (0 : Int32)), (.int (0 : Int32)), (.int (0 : Int32)), (.int (0 : Int32)), (.int (0 : Int32)), (.int (0 : Int32)), (.int (0 : Int32)), (.int (0 : Int32)), (.int (0 : Int32)), (.int (0 : Int32)), (.int (0 : Int32))] (.int (0 : Int32)) := Arv.set Ar55 q1_55 Sz55 q3_55 Hs55 G55 (fits_nar_byte _) W55 8 (by decide) (show 8 < 48 by decide)
  have pre57 : ∀ t, Steps p.tables e below (T55.setTop (mkF m 83 #[.val (.int sd), .val (.int xs), .val (.int ys), .val (.int ws0), .val (.int hs), .val (.long pk), .second, .val (.int sd), .unset, .unset, .unset, .unset, .unset, .unset, .unset, .unset, .unset, .unset, .unset, .unset, .unset] [(.ref b1)])) t → Steps p.tables e below (s₁.setTop (entryFrame m #[(.int sd), (.int xs), (.int ys), (.int ws0), (.int hs), (.long pk)] maxLocals)) t := fun t k => pre54 t (st55 t k)
  obtain ⟨Lo58, Xo58, No58⟩ : ∃ L, Stand p l e room_1 s m #[(.int sd), (.int xs), (.int ys), (.int ws0), (.int hs), (.long pk)] below meth c T55 L 1 48 ∧ Fr n0 L := ⟨_, X55, N55⟩
  have E59_0 : Exa Z h55 b1 "[B" := (E53_0.wr W55)
  have Z59 : n0 ≤ h55.size := (Nat.le_trans Z53 (Nat.le_of_eq W55.size.symm))
  have pre60 : ∀ t, Steps p.tables e below (T55.setTop (mkF m 92 #[.val (.int sd), .val (.int xs), .val (.int ys), .val (.int ws0), .val (.int hs), .val (.long pk), .second, .val (.int sd), .unset, .unset, .unset, .unset, .unset, .unset, .unset, .unset, .unset, .unset, .unset, .unset, .unset] [(.int ((sd + (9 : Int32)).toInt8.toInt32)), (.int (9 : Int32)), (.ref b1), (.ref b1)])) t → Steps p.tables e below (s₁.setTop (entryFrame m #[(.int sd), (.int xs), (.int ys), (.int ws0), (.int hs), (.long pk)] maxLocals)) t := by
    intro t k
    refine pre57 t ?_
    refine XS.dup Xo58.here hx rfl (hb hby at_83) rfl rfl ?_
    show Steps p.tables e below (T55.setTop (mkF m 84 #[.val (.int sd), .val (.int xs), .val (.int ys), .val (.int ws0), .val (.int hs), .val (.long pk), .second, .val (.int sd), .unset, .unset, .unset, .unset, .unset, .unset, .unset, .unset, .unset, .unset, .unset, .unset, .unset] [(.ref b1), (.ref b1)])) _
    refine XS.bipush Xo58.here hx rfl (hb hby at_84) ?_
    show Steps p.tables e below (T55.setTop (mkF m 86 #[.val (.int sd), .val (.int xs), .val (.int ys), .val (.int ws0), .val (.int hs), .val (.long pk), .second, .val (.int sd), .unset, .unset, .unset, .unset, .unset, .unset, .unset, .unset, .unset, .unset, .unset, .unset, .unset] [(.int (9 : Int32)), (.ref b1), (.ref b1)])) _
    refine XS.iload Xo58.here hx rfl (hb hby at_86) rfl ?_
    show Steps p.tables e below (T55.setTop (mkF m 88 #[.val (.int sd), .val (.int xs), .val (.int ys), .val (.int ws0), .val (.int hs), .val (.long pk), .second, .val (.int sd), .unset, .unset, .unset, .unset, .unset, .unset, .unset, .unset, .unset, .unset, .unset, .unset, .unset] [(.int sd), (.int (9 : Int32)), (.ref b1), (.ref b1)])) _
    refine XS.bipush Xo58.here hx rfl (hb hby at_88) ?_
    show Steps p.tables e below (T55.setTop (mkF m 90 #[.val (.int sd), .val (.int xs), .val (.int ys), .val (.int ws0), .val (.int hs), .val (.long pk), .second, .val (.int sd), .unset, .unset, .unset, .unset, .unset, .unset, .unset, .unset, .unset, .unset, .unset, .unset, .unset] [(.int (9 : Int32)), (.int sd), (.int (9 : Int32)), (.ref b1), (.ref b1)])) _
    refine XS.iadd Xo58.here hx rfl (hb hby at_90) rfl ?_
    show Steps p.tables e below (T55.setTop (mkF m 91 #[.val (.int sd), .val (.int xs), .val (.int ys), .val (.int ws0), .val (.int hs), .val (.long pk), .second, .val (.int sd), .unset, .unset, .unset, .unset, .unset, .unset, .unset, .unset, .unset, .unset, .unset, .unset, .unset] [(.int (sd + (9 : Int32))), (.int (9 : Int32)), (.ref b1), (.ref b1)])) _
    refine XT.i2b Xo58.here hx rfl (hb hby at_91) rfl ?_
    show Steps p.tables e below (T55.setTop (mkF m 92 #[.val (.int sd), .val (.int xs), .val (.int ys), .val (.int ws0), .val (.int hs), .val (.long pk), .second, .val (.int sd), .unset, .unset, .unset, .unset, .unset, .unset, .unset, .unset, .unset, .unset, .unset, .unset, .unset] [(.int ((sd + (9 : Int32)).toInt8.toInt32)), (.int (9 : Int32)), (.ref b1), (.ref b1)])) _
    exact k
  obtain ⟨cc61, Ar61, q1_61, Sz61, q3_61, Hs61, G61⟩ := id V55
  have hin61 : ¬ ((9 : Int32) < 0 ∨ cc61.slots.size ≤ ((9 : Int32) : Int32).toNatClampNeg) := inb_of Sz61 ⟨(by decide), (by decide)⟩
  obtain ⟨T61, h61, X61, e61, W61, st61⟩ := stB Xo58 hx hZ e55 Ar61 hin61 (g := (mkF m 92 #[.val (.int sd), .val (.int xs), .val (.int ys), .val (.int ws0), .val (.int hs), .val (.long pk), .second, .val (.int sd), .unset, .unset, .unset, .unset, .unset, .unset, .unset, .unset, .unset, .unset, .unset, .unset, .unset] [(.int ((sd + (9 : Int32)).toInt8.toInt32)), (.int (9 : Int32)), (.ref b1), (.ref b1)])) rfl rfl (hb hby at_92)
  have N61 := Fr.snoc X61 No58 g_b1
  have V61 : Arv Z h61 b1 cA3 .byte (48 : Int32) [(.int (nar .byte (sd.toInt8.toInt32))), (.int (nar .byte ((sd + (1 : Int32)).toInt8.toInt32))), (.int (nar .byte ((sd + (2 : Int32)).toInt8.toInt32))), (.int (nar .byte ((sd + (3 : Int32)).toInt8.toInt32))), (.int (nar .byte ((sd + (4 : Int32)).toInt8.toInt32))), (.int (nar .byte ((sd + (5 : Int32)).toInt8.toInt32))), (.int (nar .byte ((sd + (6 : Int32)).toInt8.toInt32))), (.int (nar .byte ((sd + (7 : Int32)).toInt8.toInt32))), (.int (nar .byte ((sd + (8 : Int32)).toInt8.toInt32))), (.int (nar .byte ((sd + (9 : Int32)).toInt8.toInt32))), (.int (0 : Int32)), (.int (0 : Int32)), (.int (0 : Int32)), (.int (0 : Int32)), (.int (0 : Int32)), (.int (0 : Int32)), (.int (0 : Int32)), (.int (0 : Int32)), (.int (0 : Int32)), (.int (0 : Int32)), (.int (0 : Int32)), (.int (0 : Int32)), (.int (0 : Int32)), (.int (0 : Int32)), (.int (0 : Int32)), (.int (0 : Int32)), (.int (0 : Int32)), (.int (0 : Int32)), (.int (0 : Int32)), (.int (0 : Int32)), (.int (0 : Int32)), (.int (0 : Int32)), (.int (0 : Int32)), (.int (0 : Int32)), (.int (0 : Int32)), (.int (0 : Int32)), (.int (0 : Int32)), (.int (0 : Int32)), (.int (0 : Int32)), (.int (0 : Int32)), (.int (0 : Int32)), (.int (0 : Int32)), (.int (0 : Int32)), (.int (0 : Int32)), (.int (0 : Int32)), (.int (0 : Int32)), (.int (0 : Int32)), (.int (0 : Int32))] (.int (0 : Int32)) := Arv.set Ar61 q1_61 Sz61 q3_61 Hs61 G61 (fits_nar_byte _) W61 9 (by decide) (show 9 < 48 by decide)
  have pre63 : ∀ t, Steps p.tables e below (T61.setTop (mkF m 93 #[.val (.int sd), .val (.int xs), .val (.int ys), .val (.int ws0), .val (.int hs), .val (.long pk), .second, .val (.int sd), .unset, .unset, .unset, .unset, .unset, .unset, .unset, .unset, .unset, .unset, .unset, .unset, .unset] [(.ref b1)])) t → Steps p.tables e below (s₁.setTop (entryFrame m #[(.int sd), (.int xs), (.int ys), (.int ws0), (.int hs), (.long pk)] maxLocals)) t := fun t k => pre60 t (st61 t k)
  obtain ⟨Lo64, Xo64, No64⟩ : ∃ L, Stand p l e room_1 s m #[(.int sd), (.int xs), (.int ys), (.int ws0), (.int hs), (.long pk)] below meth c T61 L 1 48 ∧ Fr n0 L := ⟨_, X61, N61⟩
  have E65_0 : Exa Z h61 b1 "[B" := (E59_0.wr W61)
  have Z65 : n0 ≤ h61.size := (Nat.le_trans Z59 (Nat.le_of_eq W61.size.symm))
  have pre66 : ∀ t, Steps p.tables e below (T61.setTop (mkF m 102 #[.val (.int sd), .val (.int xs), .val (.int ys), .val (.int ws0), .val (.int hs), .val (.long pk), .second, .val (.int sd), .unset, .unset, .unset, .unset, .unset, .unset, .unset, .unset, .unset, .unset, .unset, .unset, .unset] [(.int ((sd + (10 : Int32)).toInt8.toInt32)), (.int (10 : Int32)), (.ref b1), (.ref b1)])) t → Steps p.tables e below (s₁.setTop (entryFrame m #[(.int sd), (.int xs), (.int ys), (.int ws0), (.int hs), (.long pk)] maxLocals)) t := by
    intro t k
    refine pre63 t ?_
    refine XS.dup Xo64.here hx rfl (hb hby at_93) rfl rfl ?_
    show Steps p.tables e below (T61.setTop (mkF m 94 #[.val (.int sd), .val (.int xs), .val (.int ys), .val (.int ws0), .val (.int hs), .val (.long pk), .second, .val (.int sd), .unset, .unset, .unset, .unset, .unset, .unset, .unset, .unset, .unset, .unset, .unset, .unset, .unset] [(.ref b1), (.ref b1)])) _
    refine XS.bipush Xo64.here hx rfl (hb hby at_94) ?_
    show Steps p.tables e below (T61.setTop (mkF m 96 #[.val (.int sd), .val (.int xs), .val (.int ys), .val (.int ws0), .val (.int hs), .val (.long pk), .second, .val (.int sd), .unset, .unset, .unset, .unset, .unset, .unset, .unset, .unset, .unset, .unset, .unset, .unset, .unset] [(.int (10 : Int32)), (.ref b1), (.ref b1)])) _
    refine XS.iload Xo64.here hx rfl (hb hby at_96) rfl ?_
    show Steps p.tables e below (T61.setTop (mkF m 98 #[.val (.int sd), .val (.int xs), .val (.int ys), .val (.int ws0), .val (.int hs), .val (.long pk), .second, .val (.int sd), .unset, .unset, .unset, .unset, .unset, .unset, .unset, .unset, .unset, .unset, .unset, .unset, .unset] [(.int sd), (.int (10 : Int32)), (.ref b1), (.ref b1)])) _
    refine XS.bipush Xo64.here hx rfl (hb hby at_98) ?_
    show Steps p.tables e below (T61.setTop (mkF m 100 #[.val (.int sd), .val (.int xs), .val (.int ys), .val (.int ws0), .val (.int hs), .val (.long pk), .second, .val (.int sd), .unset, .unset, .unset, .unset, .unset, .unset, .unset, .unset, .unset, .unset, .unset, .unset, .unset] [(.int (10 : Int32)), (.int sd), (.int (10 : Int32)), (.ref b1), (.ref b1)])) _
    refine XS.iadd Xo64.here hx rfl (hb hby at_100) rfl ?_
    show Steps p.tables e below (T61.setTop (mkF m 101 #[.val (.int sd), .val (.int xs), .val (.int ys), .val (.int ws0), .val (.int hs), .val (.long pk), .second, .val (.int sd), .unset, .unset, .unset, .unset, .unset, .unset, .unset, .unset, .unset, .unset, .unset, .unset, .unset] [(.int (sd + (10 : Int32))), (.int (10 : Int32)), (.ref b1), (.ref b1)])) _
    refine XT.i2b Xo64.here hx rfl (hb hby at_101) rfl ?_
    show Steps p.tables e below (T61.setTop (mkF m 102 #[.val (.int sd), .val (.int xs), .val (.int ys), .val (.int ws0), .val (.int hs), .val (.long pk), .second, .val (.int sd), .unset, .unset, .unset, .unset, .unset, .unset, .unset, .unset, .unset, .unset, .unset, .unset, .unset] [(.int ((sd + (10 : Int32)).toInt8.toInt32)), (.int (10 : Int32)), (.ref b1), (.ref b1)])) _
    exact k
  obtain ⟨cc67, Ar67, q1_67, Sz67, q3_67, Hs67, G67⟩ := id V61
  have hin67 : ¬ ((10 : Int32) < 0 ∨ cc67.slots.size ≤ ((10 : Int32) : Int32).toNatClampNeg) := inb_of Sz67 ⟨(by decide), (by decide)⟩
  obtain ⟨T67, h67, X67, e67, W67, st67⟩ := stB Xo64 hx hZ e61 Ar67 hin67 (g := (mkF m 102 #[.val (.int sd), .val (.int xs), .val (.int ys), .val (.int ws0), .val (.int hs), .val (.long pk), .second, .val (.int sd), .unset, .unset, .unset, .unset, .unset, .unset, .unset, .unset, .unset, .unset, .unset, .unset, .unset] [(.int ((sd + (10 : Int32)).toInt8.toInt32)), (.int (10 : Int32)), (.ref b1), (.ref b1)])) rfl rfl (hb hby at_102)
  have N67 := Fr.snoc X67 No64 g_b1
  have V67 : Arv Z h67 b1 cA3 .byte (48 : Int32) [(.int (nar .byte (sd.toInt8.toInt32))), (.int (nar .byte ((sd + (1 : Int32)).toInt8.toInt32))), (.int (nar .byte ((sd + (2 : Int32)).toInt8.toInt32))), (.int (nar .byte ((sd + (3 : Int32)).toInt8.toInt32))), (.int (nar .byte ((sd + (4 : Int32)).toInt8.toInt32))), (.int (nar .byte ((sd + (5 : Int32)).toInt8.toInt32))), (.int (nar .byte ((sd + (6 : Int32)).toInt8.toInt32))), (.int (nar .byte ((sd + (7 : Int32)).toInt8.toInt32))), (.int (nar .byte ((sd + (8 : Int32)).toInt8.toInt32))), (.int (nar .byte ((sd + (9 : Int32)).toInt8.toInt32))), (.int (nar .byte ((sd + (10 : Int32)).toInt8.toInt32))), (.int (0 : Int32)), (.int (0 : Int32)), (.int (0 : Int32)), (.int (0 : Int32)), (.int (0 : Int32)), (.int (0 : Int32)), (.int (0 : Int32)), (.int (0 : Int32)), (.int (0 : Int32)), (.int (0 : Int32)), (.int (0 : Int32)), (.int (0 : Int32)), (.int (0 : Int32)), (.int (0 : Int32)), (.int (0 : Int32)), (.int (0 : Int32)), (.int (0 : Int32)), (.int (0 : Int32)), (.int (0 : Int32)), (.int (0 : Int32)), (.int (0 : Int32)), (.int (0 : Int32)), (.int (0 : Int32)), (.int (0 : Int32)), (.int (0 : Int32)), (.int (0 : Int32)), (.int (0 : Int32)), (.int (0 : Int32)), (.int (0 : Int32)), (.int (0 : Int32)), (.int (0 : Int32)), (.int (0 : Int32)), (.int (0 : Int32)), (.int (0 : Int32)), (.int (0 : Int32)), (.int (0 : Int32)), (.int (0 : Int32))] (.int (0 : Int32)) := Arv.set Ar67 q1_67 Sz67 q3_67 Hs67 G67 (fits_nar_byte _) W67 10 (by decide) (show 10 < 48 by decide)
  have pre69 : ∀ t, Steps p.tables e below (T67.setTop (mkF m 103 #[.val (.int sd), .val (.int xs), .val (.int ys), .val (.int ws0), .val (.int hs), .val (.long pk), .second, .val (.int sd), .unset, .unset, .unset, .unset, .unset, .unset, .unset, .unset, .unset, .unset, .unset, .unset, .unset] [(.ref b1)])) t → Steps p.tables e below (s₁.setTop (entryFrame m #[(.int sd), (.int xs), (.int ys), (.int ws0), (.int hs), (.long pk)] maxLocals)) t := fun t k => pre66 t (st67 t k)
  obtain ⟨Lo70, Xo70, No70⟩ : ∃ L, Stand p l e room_1 s m #[(.int sd), (.int xs), (.int ys), (.int ws0), (.int hs), (.long pk)] below meth c T67 L 1 48 ∧ Fr n0 L := ⟨_, X67, N67⟩
  have E71_0 : Exa Z h67 b1 "[B" := (E65_0.wr W67)
  have Z71 : n0 ≤ h67.size := (Nat.le_trans Z65 (Nat.le_of_eq W67.size.symm))
  have pre72 : ∀ t, Steps p.tables e below (T67.setTop (mkF m 112 #[.val (.int sd), .val (.int xs), .val (.int ys), .val (.int ws0), .val (.int hs), .val (.long pk), .second, .val (.int sd), .unset, .unset, .unset, .unset, .unset, .unset, .unset, .unset, .unset, .unset, .unset, .unset, .unset] [(.int ((sd + (11 : Int32)).toInt8.toInt32)), (.int (11 : Int32)), (.ref b1), (.ref b1)])) t → Steps p.tables e below (s₁.setTop (entryFrame m #[(.int sd), (.int xs), (.int ys), (.int ws0), (.int hs), (.long pk)] maxLocals)) t := by
    intro t k
    refine pre69 t ?_
    refine XS.dup Xo70.here hx rfl (hb hby at_103) rfl rfl ?_
    show Steps p.tables e below (T67.setTop (mkF m 104 #[.val (.int sd), .val (.int xs), .val (.int ys), .val (.int ws0), .val (.int hs), .val (.long pk), .second, .val (.int sd), .unset, .unset, .unset, .unset, .unset, .unset, .unset, .unset, .unset, .unset, .unset, .unset, .unset] [(.ref b1), (.ref b1)])) _
    refine XS.bipush Xo70.here hx rfl (hb hby at_104) ?_
    show Steps p.tables e below (T67.setTop (mkF m 106 #[.val (.int sd), .val (.int xs), .val (.int ys), .val (.int ws0), .val (.int hs), .val (.long pk), .second, .val (.int sd), .unset, .unset, .unset, .unset, .unset, .unset, .unset, .unset, .unset, .unset, .unset, .unset, .unset] [(.int (11 : Int32)), (.ref b1), (.ref b1)])) _
    refine XS.iload Xo70.here hx rfl (hb hby at_106) rfl ?_
    show Steps p.tables e below (T67.setTop (mkF m 108 #[.val (.int sd), .val (.int xs), .val (.int ys), .val (.int ws0), .val (.int hs), .val (.long pk), .second, .val (.int sd), .unset, .unset, .unset, .unset, .unset, .unset, .unset, .unset, .unset, .unset, .unset, .unset, .unset] [(.int sd), (.int (11 : Int32)), (.ref b1), (.ref b1)])) _
    refine XS.bipush Xo70.here hx rfl (hb hby at_108) ?_
    show Steps p.tables e below (T67.setTop (mkF m 110 #[.val (.int sd), .val (.int xs), .val (.int ys), .val (.int ws0), .val (.int hs), .val (.long pk), .second, .val (.int sd), .unset, .unset, .unset, .unset, .unset, .unset, .unset, .unset, .unset, .unset, .unset, .unset, .unset] [(.int (11 : Int32)), (.int sd), (.int (11 : Int32)), (.ref b1), (.ref b1)])) _
    refine XS.iadd Xo70.here hx rfl (hb hby at_110) rfl ?_
    show Steps p.tables e below (T67.setTop (mkF m 111 #[.val (.int sd), .val (.int xs), .val (.int ys), .val (.int ws0), .val (.int hs), .val (.long pk), .second, .val (.int sd), .unset, .unset, .unset, .unset, .unset, .unset, .unset, .unset, .unset, .unset, .unset, .unset, .unset] [(.int (sd + (11 : Int32))), (.int (11 : Int32)), (.ref b1), (.ref b1)])) _
    refine XT.i2b Xo70.here hx rfl (hb hby at_111) rfl ?_
    show Steps p.tables e below (T67.setTop (mkF m 112 #[.val (.int sd), .val (.int xs), .val (.int ys), .val (.int ws0), .val (.int hs), .val (.long pk), .second, .val (.int sd), .unset, .unset, .unset, .unset, .unset, .unset, .unset, .unset, .unset, .unset, .unset, .unset, .unset] [(.int ((sd + (11 : Int32)).toInt8.toInt32)), (.int (11 : Int32)), (.ref b1), (.ref b1)])) _
    exact k
  obtain ⟨cc73, Ar73, q1_73, Sz73, q3_73, Hs73, G73⟩ := id V67
  have hin73 : ¬ ((11 : Int32) < 0 ∨ cc73.slots.size ≤ ((11 : Int32) : Int32).toNatClampNeg) := inb_of Sz73 ⟨(by decide), (by decide)⟩
  obtain ⟨T73, h73, X73, e73, W73, st73⟩ := stB Xo70 hx hZ e67 Ar73 hin73 (g := (mkF m 112 #[.val (.int sd), .val (.int xs), .val (.int ys), .val (.int ws0), .val (.int hs), .val (.long pk), .second, .val (.int sd), .unset, .unset, .unset, .unset, .unset, .unset, .unset, .unset, .unset, .unset, .unset, .unset, .unset] [(.int ((sd + (11 : Int32)).toInt8.toInt32)), (.int (11 : Int32)), (.ref b1), (.ref b1)])) rfl rfl (hb hby at_112)
  have N73 := Fr.snoc X73 No70 g_b1
  have V73 : Arv Z h73 b1 cA3 .byte (48 : Int32) [(.int (nar .byte (sd.toInt8.toInt32))), (.int (nar .byte ((sd + (1 : Int32)).toInt8.toInt32))), (.int (nar .byte ((sd + (2 : Int32)).toInt8.toInt32))), (.int (nar .byte ((sd + (3 : Int32)).toInt8.toInt32))), (.int (nar .byte ((sd + (4 : Int32)).toInt8.toInt32))), (.int (nar .byte ((sd + (5 : Int32)).toInt8.toInt32))), (.int (nar .byte ((sd + (6 : Int32)).toInt8.toInt32))), (.int (nar .byte ((sd + (7 : Int32)).toInt8.toInt32))), (.int (nar .byte ((sd + (8 : Int32)).toInt8.toInt32))), (.int (nar .byte ((sd + (9 : Int32)).toInt8.toInt32))), (.int (nar .byte ((sd + (10 : Int32)).toInt8.toInt32))), (.int (nar .byte ((sd + (11 : Int32)).toInt8.toInt32))), (.int (0 : Int32)), (.int (0 : Int32)), (.int (0 : Int32)), (.int (0 : Int32)), (.int (0 : Int32)), (.int (0 : Int32)), (.int (0 : Int32)), (.int (0 : Int32)), (.int (0 : Int32)), (.int (0 : Int32)), (.int (0 : Int32)), (.int (0 : Int32)), (.int (0 : Int32)), (.int (0 : Int32)), (.int (0 : Int32)), (.int (0 : Int32)), (.int (0 : Int32)), (.int (0 : Int32)), (.int (0 : Int32)), (.int (0 : Int32)), (.int (0 : Int32)), (.int (0 : Int32)), (.int (0 : Int32)), (.int (0 : Int32)), (.int (0 : Int32)), (.int (0 : Int32)), (.int (0 : Int32)), (.int (0 : Int32)), (.int (0 : Int32)), (.int (0 : Int32)), (.int (0 : Int32)), (.int (0 : Int32)), (.int (0 : Int32)), (.int (0 : Int32)), (.int (0 : Int32)), (.int (0 : Int32))] (.int (0 : Int32)) := Arv.set Ar73 q1_73 Sz73 q3_73 Hs73 G73 (fits_nar_byte _) W73 11 (by decide) (show 11 < 48 by decide)
  have pre75 : ∀ t, Steps p.tables e below (T73.setTop (mkF m 113 #[.val (.int sd), .val (.int xs), .val (.int ys), .val (.int ws0), .val (.int hs), .val (.long pk), .second, .val (.int sd), .unset, .unset, .unset, .unset, .unset, .unset, .unset, .unset, .unset, .unset, .unset, .unset, .unset] [(.ref b1)])) t → Steps p.tables e below (s₁.setTop (entryFrame m #[(.int sd), (.int xs), (.int ys), (.int ws0), (.int hs), (.long pk)] maxLocals)) t := fun t k => pre72 t (st73 t k)
  obtain ⟨Lo76, Xo76, No76⟩ : ∃ L, Stand p l e room_1 s m #[(.int sd), (.int xs), (.int ys), (.int ws0), (.int hs), (.long pk)] below meth c T73 L 1 48 ∧ Fr n0 L := ⟨_, X73, N73⟩
  have E77_0 : Exa Z h73 b1 "[B" := (E71_0.wr W73)
  have Z77 : n0 ≤ h73.size := (Nat.le_trans Z71 (Nat.le_of_eq W73.size.symm))
  have pre78 : ∀ t, Steps p.tables e below (T73.setTop (mkF m 122 #[.val (.int sd), .val (.int xs), .val (.int ys), .val (.int ws0), .val (.int hs), .val (.long pk), .second, .val (.int sd), .unset, .unset, .unset, .unset, .unset, .unset, .unset, .unset, .unset, .unset, .unset, .unset, .unset] [(.int ((sd + (12 : Int32)).toInt8.toInt32)), (.int (12 : Int32)), (.ref b1), (.ref b1)])) t → Steps p.tables e below (s₁.setTop (entryFrame m #[(.int sd), (.int xs), (.int ys), (.int ws0), (.int hs), (.long pk)] maxLocals)) t := by
    intro t k
    refine pre75 t ?_
    refine XS.dup Xo76.here hx rfl (hb hby at_113) rfl rfl ?_
    show Steps p.tables e below (T73.setTop (mkF m 114 #[.val (.int sd), .val (.int xs), .val (.int ys), .val (.int ws0), .val (.int hs), .val (.long pk), .second, .val (.int sd), .unset, .unset, .unset, .unset, .unset, .unset, .unset, .unset, .unset, .unset, .unset, .unset, .unset] [(.ref b1), (.ref b1)])) _
    refine XS.bipush Xo76.here hx rfl (hb hby at_114) ?_
    show Steps p.tables e below (T73.setTop (mkF m 116 #[.val (.int sd), .val (.int xs), .val (.int ys), .val (.int ws0), .val (.int hs), .val (.long pk), .second, .val (.int sd), .unset, .unset, .unset, .unset, .unset, .unset, .unset, .unset, .unset, .unset, .unset, .unset, .unset] [(.int (12 : Int32)), (.ref b1), (.ref b1)])) _
    refine XS.iload Xo76.here hx rfl (hb hby at_116) rfl ?_
    show Steps p.tables e below (T73.setTop (mkF m 118 #[.val (.int sd), .val (.int xs), .val (.int ys), .val (.int ws0), .val (.int hs), .val (.long pk), .second, .val (.int sd), .unset, .unset, .unset, .unset, .unset, .unset, .unset, .unset, .unset, .unset, .unset, .unset, .unset] [(.int sd), (.int (12 : Int32)), (.ref b1), (.ref b1)])) _
    refine XS.bipush Xo76.here hx rfl (hb hby at_118) ?_
    show Steps p.tables e below (T73.setTop (mkF m 120 #[.val (.int sd), .val (.int xs), .val (.int ys), .val (.int ws0), .val (.int hs), .val (.long pk), .second, .val (.int sd), .unset, .unset, .unset, .unset, .unset, .unset, .unset, .unset, .unset, .unset, .unset, .unset, .unset] [(.int (12 : Int32)), (.int sd), (.int (12 : Int32)), (.ref b1), (.ref b1)])) _
    refine XS.iadd Xo76.here hx rfl (hb hby at_120) rfl ?_
    show Steps p.tables e below (T73.setTop (mkF m 121 #[.val (.int sd), .val (.int xs), .val (.int ys), .val (.int ws0), .val (.int hs), .val (.long pk), .second, .val (.int sd), .unset, .unset, .unset, .unset, .unset, .unset, .unset, .unset, .unset, .unset, .unset, .unset, .unset] [(.int (sd + (12 : Int32))), (.int (12 : Int32)), (.ref b1), (.ref b1)])) _
    refine XT.i2b Xo76.here hx rfl (hb hby at_121) rfl ?_
    show Steps p.tables e below (T73.setTop (mkF m 122 #[.val (.int sd), .val (.int xs), .val (.int ys), .val (.int ws0), .val (.int hs), .val (.long pk), .second, .val (.int sd), .unset, .unset, .unset, .unset, .unset, .unset, .unset, .unset, .unset, .unset, .unset, .unset, .unset] [(.int ((sd + (12 : Int32)).toInt8.toInt32)), (.int (12 : Int32)), (.ref b1), (.ref b1)])) _
    exact k
  obtain ⟨cc79, Ar79, q1_79, Sz79, q3_79, Hs79, G79⟩ := id V73
  have hin79 : ¬ ((12 : Int32) < 0 ∨ cc79.slots.size ≤ ((12 : Int32) : Int32).toNatClampNeg) := inb_of Sz79 ⟨(by decide), (by decide)⟩
  obtain ⟨T79, h79, X79, e79, W79, st79⟩ := stB Xo76 hx hZ e73 Ar79 hin79 (g := (mkF m 122 #[.val (.int sd), .val (.int xs), .val (.int ys), .val (.int ws0), .val (.int hs), .val (.long pk), .second, .val (.int sd), .unset, .unset, .unset, .unset, .unset, .unset, .unset, .unset, .unset, .unset, .unset, .unset, .unset] [(.int ((sd + (12 : Int32)).toInt8.toInt32)), (.int (12 : Int32)), (.ref b1), (.ref b1)])) rfl rfl (hb hby at_122)
  have N79 := Fr.snoc X79 No76 g_b1
  have V79 : Arv Z h79 b1 cA3 .byte (48 : Int32) [(.int (nar .byte (sd.toInt8.toInt32))), (.int (nar .byte ((sd + (1 : Int32)).toInt8.toInt32))), (.int (nar .byte ((sd + (2 : Int32)).toInt8.toInt32))), (.int (nar .byte ((sd + (3 : Int32)).toInt8.toInt32))), (.int (nar .byte ((sd + (4 : Int32)).toInt8.toInt32))), (.int (nar .byte ((sd + (5 : Int32)).toInt8.toInt32))), (.int (nar .byte ((sd + (6 : Int32)).toInt8.toInt32))), (.int (nar .byte ((sd + (7 : Int32)).toInt8.toInt32))), (.int (nar .byte ((sd + (8 : Int32)).toInt8.toInt32))), (.int (nar .byte ((sd + (9 : Int32)).toInt8.toInt32))), (.int (nar .byte ((sd + (10 : Int32)).toInt8.toInt32))), (.int (nar .byte ((sd + (11 : Int32)).toInt8.toInt32))), (.int (nar .byte ((sd + (12 : Int32)).toInt8.toInt32))), (.int (0 : Int32)), (.int (0 : Int32)), (.int (0 : Int32)), (.int (0 : Int32)), (.int (0 : Int32)), (.int (0 : Int32)), (.int (0 : Int32)), (.int (0 : Int32)), (.int (0 : Int32)), (.int (0 : Int32)), (.int (0 : Int32)), (.int (0 : Int32)), (.int (0 : Int32)), (.int (0 : Int32)), (.int (0 : Int32)), (.int (0 : Int32)), (.int (0 : Int32)), (.int (0 : Int32)), (.int (0 : Int32)), (.int (0 : Int32)), (.int (0 : Int32)), (.int (0 : Int32)), (.int (0 : Int32)), (.int (0 : Int32)), (.int (0 : Int32)), (.int (0 : Int32)), (.int (0 : Int32)), (.int (0 : Int32)), (.int (0 : Int32)), (.int (0 : Int32)), (.int (0 : Int32)), (.int (0 : Int32)), (.int (0 : Int32)), (.int (0 : Int32)), (.int (0 : Int32))] (.int (0 : Int32)) := Arv.set Ar79 q1_79 Sz79 q3_79 Hs79 G79 (fits_nar_byte _) W79 12 (by decide) (show 12 < 48 by decide)
  have pre81 : ∀ t, Steps p.tables e below (T79.setTop (mkF m 123 #[.val (.int sd), .val (.int xs), .val (.int ys), .val (.int ws0), .val (.int hs), .val (.long pk), .second, .val (.int sd), .unset, .unset, .unset, .unset, .unset, .unset, .unset, .unset, .unset, .unset, .unset, .unset, .unset] [(.ref b1)])) t → Steps p.tables e below (s₁.setTop (entryFrame m #[(.int sd), (.int xs), (.int ys), (.int ws0), (.int hs), (.long pk)] maxLocals)) t := fun t k => pre78 t (st79 t k)
  obtain ⟨Lo82, Xo82, No82⟩ : ∃ L, Stand p l e room_1 s m #[(.int sd), (.int xs), (.int ys), (.int ws0), (.int hs), (.long pk)] below meth c T79 L 1 48 ∧ Fr n0 L := ⟨_, X79, N79⟩
  have E83_0 : Exa Z h79 b1 "[B" := (E77_0.wr W79)
  have Z83 : n0 ≤ h79.size := (Nat.le_trans Z77 (Nat.le_of_eq W79.size.symm))
  have pre84 : ∀ t, Steps p.tables e below (T79.setTop (mkF m 132 #[.val (.int sd), .val (.int xs), .val (.int ys), .val (.int ws0), .val (.int hs), .val (.long pk), .second, .val (.int sd), .unset, .unset, .unset, .unset, .unset, .unset, .unset, .unset, .unset, .unset, .unset, .unset, .unset] [(.int ((sd + (13 : Int32)).toInt8.toInt32)), (.int (13 : Int32)), (.ref b1), (.ref b1)])) t → Steps p.tables e below (s₁.setTop (entryFrame m #[(.int sd), (.int xs), (.int ys), (.int ws0), (.int hs), (.long pk)] maxLocals)) t := by
    intro t k
    refine pre81 t ?_
    refine XS.dup Xo82.here hx rfl (hb hby at_123) rfl rfl ?_
    show Steps p.tables e below (T79.setTop (mkF m 124 #[.val (.int sd), .val (.int xs), .val (.int ys), .val (.int ws0), .val (.int hs), .val (.long pk), .second, .val (.int sd), .unset, .unset, .unset, .unset, .unset, .unset, .unset, .unset, .unset, .unset, .unset, .unset, .unset] [(.ref b1), (.ref b1)])) _
    refine XS.bipush Xo82.here hx rfl (hb hby at_124) ?_
    show Steps p.tables e below (T79.setTop (mkF m 126 #[.val (.int sd), .val (.int xs), .val (.int ys), .val (.int ws0), .val (.int hs), .val (.long pk), .second, .val (.int sd), .unset, .unset, .unset, .unset, .unset, .unset, .unset, .unset, .unset, .unset, .unset, .unset, .unset] [(.int (13 : Int32)), (.ref b1), (.ref b1)])) _
    refine XS.iload Xo82.here hx rfl (hb hby at_126) rfl ?_
    show Steps p.tables e below (T79.setTop (mkF m 128 #[.val (.int sd), .val (.int xs), .val (.int ys), .val (.int ws0), .val (.int hs), .val (.long pk), .second, .val (.int sd), .unset, .unset, .unset, .unset, .unset, .unset, .unset, .unset, .unset, .unset, .unset, .unset, .unset] [(.int sd), (.int (13 : Int32)), (.ref b1), (.ref b1)])) _
    refine XS.bipush Xo82.here hx rfl (hb hby at_128) ?_
    show Steps p.tables e below (T79.setTop (mkF m 130 #[.val (.int sd), .val (.int xs), .val (.int ys), .val (.int ws0), .val (.int hs), .val (.long pk), .second, .val (.int sd), .unset, .unset, .unset, .unset, .unset, .unset, .unset, .unset, .unset, .unset, .unset, .unset, .unset] [(.int (13 : Int32)), (.int sd), (.int (13 : Int32)), (.ref b1), (.ref b1)])) _
    refine XS.iadd Xo82.here hx rfl (hb hby at_130) rfl ?_
    show Steps p.tables e below (T79.setTop (mkF m 131 #[.val (.int sd), .val (.int xs), .val (.int ys), .val (.int ws0), .val (.int hs), .val (.long pk), .second, .val (.int sd), .unset, .unset, .unset, .unset, .unset, .unset, .unset, .unset, .unset, .unset, .unset, .unset, .unset] [(.int (sd + (13 : Int32))), (.int (13 : Int32)), (.ref b1), (.ref b1)])) _
    refine XT.i2b Xo82.here hx rfl (hb hby at_131) rfl ?_
    show Steps p.tables e below (T79.setTop (mkF m 132 #[.val (.int sd), .val (.int xs), .val (.int ys), .val (.int ws0), .val (.int hs), .val (.long pk), .second, .val (.int sd), .unset, .unset, .unset, .unset, .unset, .unset, .unset, .unset, .unset, .unset, .unset, .unset, .unset] [(.int ((sd + (13 : Int32)).toInt8.toInt32)), (.int (13 : Int32)), (.ref b1), (.ref b1)])) _
    exact k
  obtain ⟨cc85, Ar85, q1_85, Sz85, q3_85, Hs85, G85⟩ := id V79
  have hin85 : ¬ ((13 : Int32) < 0 ∨ cc85.slots.size ≤ ((13 : Int32) : Int32).toNatClampNeg) := inb_of Sz85 ⟨(by decide), (by decide)⟩
  obtain ⟨T85, h85, X85, e85, W85, st85⟩ := stB Xo82 hx hZ e79 Ar85 hin85 (g := (mkF m 132 #[.val (.int sd), .val (.int xs), .val (.int ys), .val (.int ws0), .val (.int hs), .val (.long pk), .second, .val (.int sd), .unset, .unset, .unset, .unset, .unset, .unset, .unset, .unset, .unset, .unset, .unset, .unset, .unset] [(.int ((sd + (13 : Int32)).toInt8.toInt32)), (.int (13 : Int32)), (.ref b1), (.ref b1)])) rfl rfl (hb hby at_132)
  have N85 := Fr.snoc X85 No82 g_b1
  have V85 : Arv Z h85 b1 cA3 .byte (48 : Int32) [(.int (nar .byte (sd.toInt8.toInt32))), (.int (nar .byte ((sd + (1 : Int32)).toInt8.toInt32))), (.int (nar .byte ((sd + (2 : Int32)).toInt8.toInt32))), (.int (nar .byte ((sd + (3 : Int32)).toInt8.toInt32))), (.int (nar .byte ((sd + (4 : Int32)).toInt8.toInt32))), (.int (nar .byte ((sd + (5 : Int32)).toInt8.toInt32))), (.int (nar .byte ((sd + (6 : Int32)).toInt8.toInt32))), (.int (nar .byte ((sd + (7 : Int32)).toInt8.toInt32))), (.int (nar .byte ((sd + (8 : Int32)).toInt8.toInt32))), (.int (nar .byte ((sd + (9 : Int32)).toInt8.toInt32))), (.int (nar .byte ((sd + (10 : Int32)).toInt8.toInt32))), (.int (nar .byte ((sd + (11 : Int32)).toInt8.toInt32))), (.int (nar .byte ((sd + (12 : Int32)).toInt8.toInt32))), (.int (nar .byte ((sd + (13 : Int32)).toInt8.toInt32))), (.int (0 : Int32)), (.int (0 : Int32)), (.int (0 : Int32)), (.int (0 : Int32)), (.int (0 : Int32)), (.int (0 : Int32)), (.int (0 : Int32)), (.int (0 : Int32)), (.int (0 : Int32)), (.int (0 : Int32)), (.int (0 : Int32)), (.int (0 : Int32)), (.int (0 : Int32)), (.int (0 : Int32)), (.int (0 : Int32)), (.int (0 : Int32)), (.int (0 : Int32)), (.int (0 : Int32)), (.int (0 : Int32)), (.int (0 : Int32)), (.int (0 : Int32)), (.int (0 : Int32)), (.int (0 : Int32)), (.int (0 : Int32)), (.int (0 : Int32)), (.int (0 : Int32)), (.int (0 : Int32)), (.int (0 : Int32)), (.int (0 : Int32)), (.int (0 : Int32)), (.int (0 : Int32)), (.int (0 : Int32)), (.int (0 : Int32)), (.int (0 : Int32))] (.int (0 : Int32)) := Arv.set Ar85 q1_85 Sz85 q3_85 Hs85 G85 (fits_nar_byte _) W85 13 (by decide) (show 13 < 48 by decide)
  have pre87 : ∀ t, Steps p.tables e below (T85.setTop (mkF m 133 #[.val (.int sd), .val (.int xs), .val (.int ys), .val (.int ws0), .val (.int hs), .val (.long pk), .second, .val (.int sd), .unset, .unset, .unset, .unset, .unset, .unset, .unset, .unset, .unset, .unset, .unset, .unset, .unset] [(.ref b1)])) t → Steps p.tables e below (s₁.setTop (entryFrame m #[(.int sd), (.int xs), (.int ys), (.int ws0), (.int hs), (.long pk)] maxLocals)) t := fun t k => pre84 t (st85 t k)
  obtain ⟨Lo88, Xo88, No88⟩ : ∃ L, Stand p l e room_1 s m #[(.int sd), (.int xs), (.int ys), (.int ws0), (.int hs), (.long pk)] below meth c T85 L 1 48 ∧ Fr n0 L := ⟨_, X85, N85⟩
  have E89_0 : Exa Z h85 b1 "[B" := (E83_0.wr W85)
  have Z89 : n0 ≤ h85.size := (Nat.le_trans Z83 (Nat.le_of_eq W85.size.symm))
  have pre90 : ∀ t, Steps p.tables e below (T85.setTop (mkF m 142 #[.val (.int sd), .val (.int xs), .val (.int ys), .val (.int ws0), .val (.int hs), .val (.long pk), .second, .val (.int sd), .unset, .unset, .unset, .unset, .unset, .unset, .unset, .unset, .unset, .unset, .unset, .unset, .unset] [(.int ((sd + (14 : Int32)).toInt8.toInt32)), (.int (14 : Int32)), (.ref b1), (.ref b1)])) t → Steps p.tables e below (s₁.setTop (entryFrame m #[(.int sd), (.int xs), (.int ys), (.int ws0), (.int hs), (.long pk)] maxLocals)) t := by
    intro t k
    refine pre87 t ?_
    refine XS.dup Xo88.here hx rfl (hb hby at_133) rfl rfl ?_
    show Steps p.tables e below (T85.setTop (mkF m 134 #[.val (.int sd), .val (.int xs), .val (.int ys), .val (.int ws0), .val (.int hs), .val (.long pk), .second, .val (.int sd), .unset, .unset, .unset, .unset, .unset, .unset, .unset, .unset, .unset, .unset, .unset, .unset, .unset] [(.ref b1), (.ref b1)])) _
    refine XS.bipush Xo88.here hx rfl (hb hby at_134) ?_
    show Steps p.tables e below (T85.setTop (mkF m 136 #[.val (.int sd), .val (.int xs), .val (.int ys), .val (.int ws0), .val (.int hs), .val (.long pk), .second, .val (.int sd), .unset, .unset, .unset, .unset, .unset, .unset, .unset, .unset, .unset, .unset, .unset, .unset, .unset] [(.int (14 : Int32)), (.ref b1), (.ref b1)])) _
    refine XS.iload Xo88.here hx rfl (hb hby at_136) rfl ?_
    show Steps p.tables e below (T85.setTop (mkF m 138 #[.val (.int sd), .val (.int xs), .val (.int ys), .val (.int ws0), .val (.int hs), .val (.long pk), .second, .val (.int sd), .unset, .unset, .unset, .unset, .unset, .unset, .unset, .unset, .unset, .unset, .unset, .unset, .unset] [(.int sd), (.int (14 : Int32)), (.ref b1), (.ref b1)])) _
    refine XS.bipush Xo88.here hx rfl (hb hby at_138) ?_
    show Steps p.tables e below (T85.setTop (mkF m 140 #[.val (.int sd), .val (.int xs), .val (.int ys), .val (.int ws0), .val (.int hs), .val (.long pk), .second, .val (.int sd), .unset, .unset, .unset, .unset, .unset, .unset, .unset, .unset, .unset, .unset, .unset, .unset, .unset] [(.int (14 : Int32)), (.int sd), (.int (14 : Int32)), (.ref b1), (.ref b1)])) _
    refine XS.iadd Xo88.here hx rfl (hb hby at_140) rfl ?_
    show Steps p.tables e below (T85.setTop (mkF m 141 #[.val (.int sd), .val (.int xs), .val (.int ys), .val (.int ws0), .val (.int hs), .val (.long pk), .second, .val (.int sd), .unset, .unset, .unset, .unset, .unset, .unset, .unset, .unset, .unset, .unset, .unset, .unset, .unset] [(.int (sd + (14 : Int32))), (.int (14 : Int32)), (.ref b1), (.ref b1)])) _
    refine XT.i2b Xo88.here hx rfl (hb hby at_141) rfl ?_
    show Steps p.tables e below (T85.setTop (mkF m 142 #[.val (.int sd), .val (.int xs), .val (.int ys), .val (.int ws0), .val (.int hs), .val (.long pk), .second, .val (.int sd), .unset, .unset, .unset, .unset, .unset, .unset, .unset, .unset, .unset, .unset, .unset, .unset, .unset] [(.int ((sd + (14 : Int32)).toInt8.toInt32)), (.int (14 : Int32)), (.ref b1), (.ref b1)])) _
    exact k
  obtain ⟨cc91, Ar91, q1_91, Sz91, q3_91, Hs91, G91⟩ := id V85
  have hin91 : ¬ ((14 : Int32) < 0 ∨ cc91.slots.size ≤ ((14 : Int32) : Int32).toNatClampNeg) := inb_of Sz91 ⟨(by decide), (by decide)⟩
  obtain ⟨T91, h91, X91, e91, W91, st91⟩ := stB Xo88 hx hZ e85 Ar91 hin91 (g := (mkF m 142 #[.val (.int sd), .val (.int xs), .val (.int ys), .val (.int ws0), .val (.int hs), .val (.long pk), .second, .val (.int sd), .unset, .unset, .unset, .unset, .unset, .unset, .unset, .unset, .unset, .unset, .unset, .unset, .unset] [(.int ((sd + (14 : Int32)).toInt8.toInt32)), (.int (14 : Int32)), (.ref b1), (.ref b1)])) rfl rfl (hb hby at_142)
  have N91 := Fr.snoc X91 No88 g_b1
  have V91 : Arv Z h91 b1 cA3 .byte (48 : Int32) [(.int (nar .byte (sd.toInt8.toInt32))), (.int (nar .byte ((sd + (1 : Int32)).toInt8.toInt32))), (.int (nar .byte ((sd + (2 : Int32)).toInt8.toInt32))), (.int (nar .byte ((sd + (3 : Int32)).toInt8.toInt32))), (.int (nar .byte ((sd + (4 : Int32)).toInt8.toInt32))), (.int (nar .byte ((sd + (5 : Int32)).toInt8.toInt32))), (.int (nar .byte ((sd + (6 : Int32)).toInt8.toInt32))), (.int (nar .byte ((sd + (7 : Int32)).toInt8.toInt32))), (.int (nar .byte ((sd + (8 : Int32)).toInt8.toInt32))), (.int (nar .byte ((sd + (9 : Int32)).toInt8.toInt32))), (.int (nar .byte ((sd + (10 : Int32)).toInt8.toInt32))), (.int (nar .byte ((sd + (11 : Int32)).toInt8.toInt32))), (.int (nar .byte ((sd + (12 : Int32)).toInt8.toInt32))), (.int (nar .byte ((sd + (13 : Int32)).toInt8.toInt32))), (.int (nar .byte ((sd + (14 : Int32)).toInt8.toInt32))), (.int (0 : Int32)), (.int (0 : Int32)), (.int (0 : Int32)), (.int (0 : Int32)), (.int (0 : Int32)), (.int (0 : Int32)), (.int (0 : Int32)), (.int (0 : Int32)), (.int (0 : Int32)), (.int (0 : Int32)), (.int (0 : Int32)), (.int (0 : Int32)), (.int (0 : Int32)), (.int (0 : Int32)), (.int (0 : Int32)), (.int (0 : Int32)), (.int (0 : Int32)), (.int (0 : Int32)), (.int (0 : Int32)), (.int (0 : Int32)), (.int (0 : Int32)), (.int (0 : Int32)), (.int (0 : Int32)), (.int (0 : Int32)), (.int (0 : Int32)), (.int (0 : Int32)), (.int (0 : Int32)), (.int (0 : Int32)), (.int (0 : Int32)), (.int (0 : Int32)), (.int (0 : Int32)), (.int (0 : Int32)), (.int (0 : Int32))] (.int (0 : Int32)) := Arv.set Ar91 q1_91 Sz91 q3_91 Hs91 G91 (fits_nar_byte _) W91 14 (by decide) (show 14 < 48 by decide)
  have pre93 : ∀ t, Steps p.tables e below (T91.setTop (mkF m 143 #[.val (.int sd), .val (.int xs), .val (.int ys), .val (.int ws0), .val (.int hs), .val (.long pk), .second, .val (.int sd), .unset, .unset, .unset, .unset, .unset, .unset, .unset, .unset, .unset, .unset, .unset, .unset, .unset] [(.ref b1)])) t → Steps p.tables e below (s₁.setTop (entryFrame m #[(.int sd), (.int xs), (.int ys), (.int ws0), (.int hs), (.long pk)] maxLocals)) t := fun t k => pre90 t (st91 t k)
  obtain ⟨Lo94, Xo94, No94⟩ : ∃ L, Stand p l e room_1 s m #[(.int sd), (.int xs), (.int ys), (.int ws0), (.int hs), (.long pk)] below meth c T91 L 1 48 ∧ Fr n0 L := ⟨_, X91, N91⟩
  have E95_0 : Exa Z h91 b1 "[B" := (E89_0.wr W91)
  have Z95 : n0 ≤ h91.size := (Nat.le_trans Z89 (Nat.le_of_eq W91.size.symm))
  have pre96 : ∀ t, Steps p.tables e below (T91.setTop (mkF m 152 #[.val (.int sd), .val (.int xs), .val (.int ys), .val (.int ws0), .val (.int hs), .val (.long pk), .second, .val (.int sd), .unset, .unset, .unset, .unset, .unset, .unset, .unset, .unset, .unset, .unset, .unset, .unset, .unset] [(.int ((sd + (15 : Int32)).toInt8.toInt32)), (.int (15 : Int32)), (.ref b1), (.ref b1)])) t → Steps p.tables e below (s₁.setTop (entryFrame m #[(.int sd), (.int xs), (.int ys), (.int ws0), (.int hs), (.long pk)] maxLocals)) t := by
    intro t k
    refine pre93 t ?_
    refine XS.dup Xo94.here hx rfl (hb hby at_143) rfl rfl ?_
    show Steps p.tables e below (T91.setTop (mkF m 144 #[.val (.int sd), .val (.int xs), .val (.int ys), .val (.int ws0), .val (.int hs), .val (.long pk), .second, .val (.int sd), .unset, .unset, .unset, .unset, .unset, .unset, .unset, .unset, .unset, .unset, .unset, .unset, .unset] [(.ref b1), (.ref b1)])) _
    refine XS.bipush Xo94.here hx rfl (hb hby at_144) ?_
    show Steps p.tables e below (T91.setTop (mkF m 146 #[.val (.int sd), .val (.int xs), .val (.int ys), .val (.int ws0), .val (.int hs), .val (.long pk), .second, .val (.int sd), .unset, .unset, .unset, .unset, .unset, .unset, .unset, .unset, .unset, .unset, .unset, .unset, .unset] [(.int (15 : Int32)), (.ref b1), (.ref b1)])) _
    refine XS.iload Xo94.here hx rfl (hb hby at_146) rfl ?_
    show Steps p.tables e below (T91.setTop (mkF m 148 #[.val (.int sd), .val (.int xs), .val (.int ys), .val (.int ws0), .val (.int hs), .val (.long pk), .second, .val (.int sd), .unset, .unset, .unset, .unset, .unset, .unset, .unset, .unset, .unset, .unset, .unset, .unset, .unset] [(.int sd), (.int (15 : Int32)), (.ref b1), (.ref b1)])) _
    refine XS.bipush Xo94.here hx rfl (hb hby at_148) ?_
    show Steps p.tables e below (T91.setTop (mkF m 150 #[.val (.int sd), .val (.int xs), .val (.int ys), .val (.int ws0), .val (.int hs), .val (.long pk), .second, .val (.int sd), .unset, .unset, .unset, .unset, .unset, .unset, .unset, .unset, .unset, .unset, .unset, .unset, .unset] [(.int (15 : Int32)), (.int sd), (.int (15 : Int32)), (.ref b1), (.ref b1)])) _
    refine XS.iadd Xo94.here hx rfl (hb hby at_150) rfl ?_
    show Steps p.tables e below (T91.setTop (mkF m 151 #[.val (.int sd), .val (.int xs), .val (.int ys), .val (.int ws0), .val (.int hs), .val (.long pk), .second, .val (.int sd), .unset, .unset, .unset, .unset, .unset, .unset, .unset, .unset, .unset, .unset, .unset, .unset, .unset] [(.int (sd + (15 : Int32))), (.int (15 : Int32)), (.ref b1), (.ref b1)])) _
    refine XT.i2b Xo94.here hx rfl (hb hby at_151) rfl ?_
    show Steps p.tables e below (T91.setTop (mkF m 152 #[.val (.int sd), .val (.int xs), .val (.int ys), .val (.int ws0), .val (.int hs), .val (.long pk), .second, .val (.int sd), .unset, .unset, .unset, .unset, .unset, .unset, .unset, .unset, .unset, .unset, .unset, .unset, .unset] [(.int ((sd + (15 : Int32)).toInt8.toInt32)), (.int (15 : Int32)), (.ref b1), (.ref b1)])) _
    exact k
  obtain ⟨cc97, Ar97, q1_97, Sz97, q3_97, Hs97, G97⟩ := id V91
  have hin97 : ¬ ((15 : Int32) < 0 ∨ cc97.slots.size ≤ ((15 : Int32) : Int32).toNatClampNeg) := inb_of Sz97 ⟨(by decide), (by decide)⟩
  obtain ⟨T97, h97, X97, e97, W97, st97⟩ := stB Xo94 hx hZ e91 Ar97 hin97 (g := (mkF m 152 #[.val (.int sd), .val (.int xs), .val (.int ys), .val (.int ws0), .val (.int hs), .val (.long pk), .second, .val (.int sd), .unset, .unset, .unset, .unset, .unset, .unset, .unset, .unset, .unset, .unset, .unset, .unset, .unset] [(.int ((sd + (15 : Int32)).toInt8.toInt32)), (.int (15 : Int32)), (.ref b1), (.ref b1)])) rfl rfl (hb hby at_152)
  have N97 := Fr.snoc X97 No94 g_b1
  have V97 : Arv Z h97 b1 cA3 .byte (48 : Int32) [(.int (nar .byte (sd.toInt8.toInt32))), (.int (nar .byte ((sd + (1 : Int32)).toInt8.toInt32))), (.int (nar .byte ((sd + (2 : Int32)).toInt8.toInt32))), (.int (nar .byte ((sd + (3 : Int32)).toInt8.toInt32))), (.int (nar .byte ((sd + (4 : Int32)).toInt8.toInt32))), (.int (nar .byte ((sd + (5 : Int32)).toInt8.toInt32))), (.int (nar .byte ((sd + (6 : Int32)).toInt8.toInt32))), (.int (nar .byte ((sd + (7 : Int32)).toInt8.toInt32))), (.int (nar .byte ((sd + (8 : Int32)).toInt8.toInt32))), (.int (nar .byte ((sd + (9 : Int32)).toInt8.toInt32))), (.int (nar .byte ((sd + (10 : Int32)).toInt8.toInt32))), (.int (nar .byte ((sd + (11 : Int32)).toInt8.toInt32))), (.int (nar .byte ((sd + (12 : Int32)).toInt8.toInt32))), (.int (nar .byte ((sd + (13 : Int32)).toInt8.toInt32))), (.int (nar .byte ((sd + (14 : Int32)).toInt8.toInt32))), (.int (nar .byte ((sd + (15 : Int32)).toInt8.toInt32))), (.int (0 : Int32)), (.int (0 : Int32)), (.int (0 : Int32)), (.int (0 : Int32)), (.int (0 : Int32)), (.int (0 : Int32)), (.int (0 : Int32)), (.int (0 : Int32)), (.int (0 : Int32)), (.int (0 : Int32)), (.int (0 : Int32)), (.int (0 : Int32)), (.int (0 : Int32)), (.int (0 : Int32)), (.int (0 : Int32)), (.int (0 : Int32)), (.int (0 : Int32)), (.int (0 : Int32)), (.int (0 : Int32)), (.int (0 : Int32)), (.int (0 : Int32)), (.int (0 : Int32)), (.int (0 : Int32)), (.int (0 : Int32)), (.int (0 : Int32)), (.int (0 : Int32)), (.int (0 : Int32)), (.int (0 : Int32)), (.int (0 : Int32)), (.int (0 : Int32)), (.int (0 : Int32)), (.int (0 : Int32))] (.int (0 : Int32)) := Arv.set Ar97 q1_97 Sz97 q3_97 Hs97 G97 (fits_nar_byte _) W97 15 (by decide) (show 15 < 48 by decide)
  have pre99 : ∀ t, Steps p.tables e below (T97.setTop (mkF m 153 #[.val (.int sd), .val (.int xs), .val (.int ys), .val (.int ws0), .val (.int hs), .val (.long pk), .second, .val (.int sd), .unset, .unset, .unset, .unset, .unset, .unset, .unset, .unset, .unset, .unset, .unset, .unset, .unset] [(.ref b1)])) t → Steps p.tables e below (s₁.setTop (entryFrame m #[(.int sd), (.int xs), (.int ys), (.int ws0), (.int hs), (.long pk)] maxLocals)) t := fun t k => pre96 t (st97 t k)
  obtain ⟨Lo100, Xo100, No100⟩ : ∃ L, Stand p l e room_1 s m #[(.int sd), (.int xs), (.int ys), (.int ws0), (.int hs), (.long pk)] below meth c T97 L 1 48 ∧ Fr n0 L := ⟨_, X97, N97⟩
  have E101_0 : Exa Z h97 b1 "[B" := (E95_0.wr W97)
  have Z101 : n0 ≤ h97.size := (Nat.le_trans Z95 (Nat.le_of_eq W97.size.symm))
  have pre102 : ∀ t, Steps p.tables e below (T97.setTop (mkF m 162 #[.val (.int sd), .val (.int xs), .val (.int ys), .val (.int ws0), .val (.int hs), .val (.long pk), .second, .val (.int sd), .unset, .unset, .unset, .unset, .unset, .unset, .unset, .unset, .unset, .unset, .unset, .unset, .unset] [(.int ((sd + (16 : Int32)).toInt8.toInt32)), (.int (16 : Int32)), (.ref b1), (.ref b1)])) t → Steps p.tables e below (s₁.setTop (entryFrame m #[(.int sd), (.int xs), (.int ys), (.int ws0), (.int hs), (.long pk)] maxLocals)) t := by
    intro t k
    refine pre99 t ?_
    refine XS.dup Xo100.here hx rfl (hb hby at_153) rfl rfl ?_
    show Steps p.tables e below (T97.setTop (mkF m 154 #[.val (.int sd), .val (.int xs), .val (.int ys), .val (.int ws0), .val (.int hs), .val (.long pk), .second, .val (.int sd), .unset, .unset, .unset, .unset, .unset, .unset, .unset, .unset, .unset, .unset, .unset, .unset, .unset] [(.ref b1), (.ref b1)])) _
    refine XS.bipush Xo100.here hx rfl (hb hby at_154) ?_
    show Steps p.tables e below (T97.setTop (mkF m 156 #[.val (.int sd), .val (.int xs), .val (.int ys), .val (.int ws0), .val (.int hs), .val (.long pk), .second, .val (.int sd), .unset, .unset, .unset, .unset, .unset, .unset, .unset, .unset, .unset, .unset, .unset, .unset, .unset] [(.int (16 : Int32)), (.ref b1), (.ref b1)])) _
    refine XS.iload Xo100.here hx rfl (hb hby at_156) rfl ?_
    show Steps p.tables e below (T97.setTop (mkF m 158 #[.val (.int sd), .val (.int xs), .val (.int ys), .val (.int ws0), .val (.int hs), .val (.long pk), .second, .val (.int sd), .unset, .unset, .unset, .unset, .unset, .unset, .unset, .unset, .unset, .unset, .unset, .unset, .unset] [(.int sd), (.int (16 : Int32)), (.ref b1), (.ref b1)])) _
    refine XS.bipush Xo100.here hx rfl (hb hby at_158) ?_
    show Steps p.tables e below (T97.setTop (mkF m 160 #[.val (.int sd), .val (.int xs), .val (.int ys), .val (.int ws0), .val (.int hs), .val (.long pk), .second, .val (.int sd), .unset, .unset, .unset, .unset, .unset, .unset, .unset, .unset, .unset, .unset, .unset, .unset, .unset] [(.int (16 : Int32)), (.int sd), (.int (16 : Int32)), (.ref b1), (.ref b1)])) _
    refine XS.iadd Xo100.here hx rfl (hb hby at_160) rfl ?_
    show Steps p.tables e below (T97.setTop (mkF m 161 #[.val (.int sd), .val (.int xs), .val (.int ys), .val (.int ws0), .val (.int hs), .val (.long pk), .second, .val (.int sd), .unset, .unset, .unset, .unset, .unset, .unset, .unset, .unset, .unset, .unset, .unset, .unset, .unset] [(.int (sd + (16 : Int32))), (.int (16 : Int32)), (.ref b1), (.ref b1)])) _
    refine XT.i2b Xo100.here hx rfl (hb hby at_161) rfl ?_
    show Steps p.tables e below (T97.setTop (mkF m 162 #[.val (.int sd), .val (.int xs), .val (.int ys), .val (.int ws0), .val (.int hs), .val (.long pk), .second, .val (.int sd), .unset, .unset, .unset, .unset, .unset, .unset, .unset, .unset, .unset, .unset, .unset, .unset, .unset] [(.int ((sd + (16 : Int32)).toInt8.toInt32)), (.int (16 : Int32)), (.ref b1), (.ref b1)])) _
    exact k
  obtain ⟨cc103, Ar103, q1_103, Sz103, q3_103, Hs103, G103⟩ := id V97
  have hin103 : ¬ ((16 : Int32) < 0 ∨ cc103.slots.size ≤ ((16 : Int32) : Int32).toNatClampNeg) := inb_of Sz103 ⟨(by decide), (by decide)⟩
  obtain ⟨T103, h103, X103, e103, W103, st103⟩ := stB Xo100 hx hZ e97 Ar103 hin103 (g := (mkF m 162 #[.val (.int sd), .val (.int xs), .val (.int ys), .val (.int ws0), .val (.int hs), .val (.long pk), .second, .val (.int sd), .unset, .unset, .unset, .unset, .unset, .unset, .unset, .unset, .unset, .unset, .unset, .unset, .unset] [(.int ((sd + (16 : Int32)).toInt8.toInt32)), (.int (16 : Int32)), (.ref b1), (.ref b1)])) rfl rfl (hb hby at_162)
  have N103 := Fr.snoc X103 No100 g_b1
  have V103 : Arv Z h103 b1 cA3 .byte (48 : Int32) [(.int (nar .byte (sd.toInt8.toInt32))), (.int (nar .byte ((sd + (1 : Int32)).toInt8.toInt32))), (.int (nar .byte ((sd + (2 : Int32)).toInt8.toInt32))), (.int (nar .byte ((sd + (3 : Int32)).toInt8.toInt32))), (.int (nar .byte ((sd + (4 : Int32)).toInt8.toInt32))), (.int (nar .byte ((sd + (5 : Int32)).toInt8.toInt32))), (.int (nar .byte ((sd + (6 : Int32)).toInt8.toInt32))), (.int (nar .byte ((sd + (7 : Int32)).toInt8.toInt32))), (.int (nar .byte ((sd + (8 : Int32)).toInt8.toInt32))), (.int (nar .byte ((sd + (9 : Int32)).toInt8.toInt32))), (.int (nar .byte ((sd + (10 : Int32)).toInt8.toInt32))), (.int (nar .byte ((sd + (11 : Int32)).toInt8.toInt32))), (.int (nar .byte ((sd + (12 : Int32)).toInt8.toInt32))), (.int (nar .byte ((sd + (13 : Int32)).toInt8.toInt32))), (.int (nar .byte ((sd + (14 : Int32)).toInt8.toInt32))), (.int (nar .byte ((sd + (15 : Int32)).toInt8.toInt32))), (.int (nar .byte ((sd + (16 : Int32)).toInt8.toInt32))), (.int (0 : Int32)), (.int (0 : Int32)), (.int (0 : Int32)), (.int (0 : Int32)), (.int (0 : Int32)), (.int (0 : Int32)), (.int (0 : Int32)), (.int (0 : Int32)), (.int (0 : Int32)), (.int (0 : Int32)), (.int (0 : Int32)), (.int (0 : Int32)), (.int (0 : Int32)), (.int (0 : Int32)), (.int (0 : Int32)), (.int (0 : Int32)), (.int (0 : Int32)), (.int (0 : Int32)), (.int (0 : Int32)), (.int (0 : Int32)), (.int (0 : Int32)), (.int (0 : Int32)), (.int (0 : Int32)), (.int (0 : Int32)), (.int (0 : Int32)), (.int (0 : Int32)), (.int (0 : Int32)), (.int (0 : Int32)), (.int (0 : Int32)), (.int (0 : Int32)), (.int (0 : Int32))] (.int (0 : Int32)) := Arv.set Ar103 q1_103 Sz103 q3_103 Hs103 G103 (fits_nar_byte _) W103 16 (by decide) (show 16 < 48 by decide)
  have pre105 : ∀ t, Steps p.tables e below (T103.setTop (mkF m 163 #[.val (.int sd), .val (.int xs), .val (.int ys), .val (.int ws0), .val (.int hs), .val (.long pk), .second, .val (.int sd), .unset, .unset, .unset, .unset, .unset, .unset, .unset, .unset, .unset, .unset, .unset, .unset, .unset] [(.ref b1)])) t → Steps p.tables e below (s₁.setTop (entryFrame m #[(.int sd), (.int xs), (.int ys), (.int ws0), (.int hs), (.long pk)] maxLocals)) t := fun t k => pre102 t (st103 t k)
  obtain ⟨Lo106, Xo106, No106⟩ : ∃ L, Stand p l e room_1 s m #[(.int sd), (.int xs), (.int ys), (.int ws0), (.int hs), (.long pk)] below meth c T103 L 1 48 ∧ Fr n0 L := ⟨_, X103, N103⟩
  have E107_0 : Exa Z h103 b1 "[B" := (E101_0.wr W103)
  have Z107 : n0 ≤ h103.size := (Nat.le_trans Z101 (Nat.le_of_eq W103.size.symm))
  have pre108 : ∀ t, Steps p.tables e below (T103.setTop (mkF m 172 #[.val (.int sd), .val (.int xs), .val (.int ys), .val (.int ws0), .val (.int hs), .val (.long pk), .second, .val (.int sd), .unset, .unset, .unset, .unset, .unset, .unset, .unset, .unset, .unset, .unset, .unset, .unset, .unset] [(.int ((sd + (17 : Int32)).toInt8.toInt32)), (.int (17 : Int32)), (.ref b1), (.ref b1)])) t → Steps p.tables e below (s₁.setTop (entryFrame m #[(.int sd), (.int xs), (.int ys), (.int ws0), (.int hs), (.long pk)] maxLocals)) t := by
    intro t k
    refine pre105 t ?_
    refine XS.dup Xo106.here hx rfl (hb hby at_163) rfl rfl ?_
    show Steps p.tables e below (T103.setTop (mkF m 164 #[.val (.int sd), .val (.int xs), .val (.int ys), .val (.int ws0), .val (.int hs), .val (.long pk), .second, .val (.int sd), .unset, .unset, .unset, .unset, .unset, .unset, .unset, .unset, .unset, .unset, .unset, .unset, .unset] [(.ref b1), (.ref b1)])) _
    refine XS.bipush Xo106.here hx rfl (hb hby at_164) ?_
    show Steps p.tables e below (T103.setTop (mkF m 166 #[.val (.int sd), .val (.int xs), .val (.int ys), .val (.int ws0), .val (.int hs), .val (.long pk), .second, .val (.int sd), .unset, .unset, .unset, .unset, .unset, .unset, .unset, .unset, .unset, .unset, .unset, .unset, .unset] [(.int (17 : Int32)), (.ref b1), (.ref b1)])) _
    refine XS.iload Xo106.here hx rfl (hb hby at_166) rfl ?_
    show Steps p.tables e below (T103.setTop (mkF m 168 #[.val (.int sd), .val (.int xs), .val (.int ys), .val (.int ws0), .val (.int hs), .val (.long pk), .second, .val (.int sd), .unset, .unset, .unset, .unset, .unset, .unset, .unset, .unset, .unset, .unset, .unset, .unset, .unset] [(.int sd), (.int (17 : Int32)), (.ref b1), (.ref b1)])) _
    refine XS.bipush Xo106.here hx rfl (hb hby at_168) ?_
    show Steps p.tables e below (T103.setTop (mkF m 170 #[.val (.int sd), .val (.int xs), .val (.int ys), .val (.int ws0), .val (.int hs), .val (.long pk), .second, .val (.int sd), .unset, .unset, .unset, .unset, .unset, .unset, .unset, .unset, .unset, .unset, .unset, .unset, .unset] [(.int (17 : Int32)), (.int sd), (.int (17 : Int32)), (.ref b1), (.ref b1)])) _
    refine XS.iadd Xo106.here hx rfl (hb hby at_170) rfl ?_
    show Steps p.tables e below (T103.setTop (mkF m 171 #[.val (.int sd), .val (.int xs), .val (.int ys), .val (.int ws0), .val (.int hs), .val (.long pk), .second, .val (.int sd), .unset, .unset, .unset, .unset, .unset, .unset, .unset, .unset, .unset, .unset, .unset, .unset, .unset] [(.int (sd + (17 : Int32))), (.int (17 : Int32)), (.ref b1), (.ref b1)])) _
    refine XT.i2b Xo106.here hx rfl (hb hby at_171) rfl ?_
    show Steps p.tables e below (T103.setTop (mkF m 172 #[.val (.int sd), .val (.int xs), .val (.int ys), .val (.int ws0), .val (.int hs), .val (.long pk), .second, .val (.int sd), .unset, .unset, .unset, .unset, .unset, .unset, .unset, .unset, .unset, .unset, .unset, .unset, .unset] [(.int ((sd + (17 : Int32)).toInt8.toInt32)), (.int (17 : Int32)), (.ref b1), (.ref b1)])) _
    exact k
  obtain ⟨cc109, Ar109, q1_109, Sz109, q3_109, Hs109, G109⟩ := id V103
  have hin109 : ¬ ((17 : Int32) < 0 ∨ cc109.slots.size ≤ ((17 : Int32) : Int32).toNatClampNeg) := inb_of Sz109 ⟨(by decide), (by decide)⟩
  obtain ⟨T109, h109, X109, e109, W109, st109⟩ := stB Xo106 hx hZ e103 Ar109 hin109 (g := (mkF m 172 #[.val (.int sd), .val (.int xs), .val (.int ys), .val (.int ws0), .val (.int hs), .val (.long pk), .second, .val (.int sd), .unset, .unset, .unset, .unset, .unset, .unset, .unset, .unset, .unset, .unset, .unset, .unset, .unset] [(.int ((sd + (17 : Int32)).toInt8.toInt32)), (.int (17 : Int32)), (.ref b1), (.ref b1)])) rfl rfl (hb hby at_172)
  have N109 := Fr.snoc X109 No106 g_b1
  have V109 : Arv Z h109 b1 cA3 .byte (48 : Int32) [(.int (nar .byte (sd.toInt8.toInt32))), (.int (nar .byte ((sd + (1 : Int32)).toInt8.toInt32))), (.int (nar .byte ((sd + (2 : Int32)).toInt8.toInt32))), (.int (nar .byte ((sd + (3 : Int32)).toInt8.toInt32))), (.int (nar .byte ((sd + (4 : Int32)).toInt8.toInt32))), (.int (nar .byte ((sd + (5 : Int32)).toInt8.toInt32))), (.int (nar .byte ((sd + (6 : Int32)).toInt8.toInt32))), (.int (nar .byte ((sd + (7 : Int32)).toInt8.toInt32))), (.int (nar .byte ((sd + (8 : Int32)).toInt8.toInt32))), (.int (nar .byte ((sd + (9 : Int32)).toInt8.toInt32))), (.int (nar .byte ((sd + (10 : Int32)).toInt8.toInt32))), (.int (nar .byte ((sd + (11 : Int32)).toInt8.toInt32))), (.int (nar .byte ((sd + (12 : Int32)).toInt8.toInt32))), (.int (nar .byte ((sd + (13 : Int32)).toInt8.toInt32))), (.int (nar .byte ((sd + (14 : Int32)).toInt8.toInt32))), (.int (nar .byte ((sd + (15 : Int32)).toInt8.toInt32))), (.int (nar .byte ((sd + (16 : Int32)).toInt8.toInt32))), (.int (nar .byte ((sd + (17 : Int32)).toInt8.toInt32))), (.int (0 : Int32)), (.int (0 : Int32)), (.int (0 : Int32)), (.int (0 : Int32)), (.int (0 : Int32)), (.int (0 : Int32)), (.int (0 : Int32)), (.int (0 : Int32)), (.int (0 : Int32)), (.int (0 : Int32)), (.int (0 : Int32)), (.int (0 : Int32)), (.int (0 : Int32)), (.int (0 : Int32)), (.int (0 : Int32)), (.int (0 : Int32)), (.int (0 : Int32)), (.int (0 : Int32)), (.int (0 : Int32)), (.int (0 : Int32)), (.int (0 : Int32)), (.int (0 : Int32)), (.int (0 : Int32)), (.int (0 : Int32)), (.int (0 : Int32)), (.int (0 : Int32)), (.int (0 : Int32)), (.int (0 : Int32)), (.int (0 : Int32)), (.int (0 : Int32))] (.int (0 : Int32)) := Arv.set Ar109 q1_109 Sz109 q3_109 Hs109 G109 (fits_nar_byte _) W109 17 (by decide) (show 17 < 48 by decide)
  have pre111 : ∀ t, Steps p.tables e below (T109.setTop (mkF m 173 #[.val (.int sd), .val (.int xs), .val (.int ys), .val (.int ws0), .val (.int hs), .val (.long pk), .second, .val (.int sd), .unset, .unset, .unset, .unset, .unset, .unset, .unset, .unset, .unset, .unset, .unset, .unset, .unset] [(.ref b1)])) t → Steps p.tables e below (s₁.setTop (entryFrame m #[(.int sd), (.int xs), (.int ys), (.int ws0), (.int hs), (.long pk)] maxLocals)) t := fun t k => pre108 t (st109 t k)
  obtain ⟨Lo112, Xo112, No112⟩ : ∃ L, Stand p l e room_1 s m #[(.int sd), (.int xs), (.int ys), (.int ws0), (.int hs), (.long pk)] below meth c T109 L 1 48 ∧ Fr n0 L := ⟨_, X109, N109⟩
  have E113_0 : Exa Z h109 b1 "[B" := (E107_0.wr W109)
  have Z113 : n0 ≤ h109.size := (Nat.le_trans Z107 (Nat.le_of_eq W109.size.symm))
  have pre114 : ∀ t, Steps p.tables e below (T109.setTop (mkF m 182 #[.val (.int sd), .val (.int xs), .val (.int ys), .val (.int ws0), .val (.int hs), .val (.long pk), .second, .val (.int sd), .unset, .unset, .unset, .unset, .unset, .unset, .unset, .unset, .unset, .unset, .unset, .unset, .unset] [(.int ((sd + (18 : Int32)).toInt8.toInt32)), (.int (18 : Int32)), (.ref b1), (.ref b1)])) t → Steps p.tables e below (s₁.setTop (entryFrame m #[(.int sd), (.int xs), (.int ys), (.int ws0), (.int hs), (.long pk)] maxLocals)) t := by
    intro t k
    refine pre111 t ?_
    refine XS.dup Xo112.here hx rfl (hb hby at_173) rfl rfl ?_
    show Steps p.tables e below (T109.setTop (mkF m 174 #[.val (.int sd), .val (.int xs), .val (.int ys), .val (.int ws0), .val (.int hs), .val (.long pk), .second, .val (.int sd), .unset, .unset, .unset, .unset, .unset, .unset, .unset, .unset, .unset, .unset, .unset, .unset, .unset] [(.ref b1), (.ref b1)])) _
    refine XS.bipush Xo112.here hx rfl (hb hby at_174) ?_
    show Steps p.tables e below (T109.setTop (mkF m 176 #[.val (.int sd), .val (.int xs), .val (.int ys), .val (.int ws0), .val (.int hs), .val (.long pk), .second, .val (.int sd), .unset, .unset, .unset, .unset, .unset, .unset, .unset, .unset, .unset, .unset, .unset, .unset, .unset] [(.int (18 : Int32)), (.ref b1), (.ref b1)])) _
    refine XS.iload Xo112.here hx rfl (hb hby at_176) rfl ?_
    show Steps p.tables e below (T109.setTop (mkF m 178 #[.val (.int sd), .val (.int xs), .val (.int ys), .val (.int ws0), .val (.int hs), .val (.long pk), .second, .val (.int sd), .unset, .unset, .unset, .unset, .unset, .unset, .unset, .unset, .unset, .unset, .unset, .unset, .unset] [(.int sd), (.int (18 : Int32)), (.ref b1), (.ref b1)])) _
    refine XS.bipush Xo112.here hx rfl (hb hby at_178) ?_
    show Steps p.tables e below (T109.setTop (mkF m 180 #[.val (.int sd), .val (.int xs), .val (.int ys), .val (.int ws0), .val (.int hs), .val (.long pk), .second, .val (.int sd), .unset, .unset, .unset, .unset, .unset, .unset, .unset, .unset, .unset, .unset, .unset, .unset, .unset] [(.int (18 : Int32)), (.int sd), (.int (18 : Int32)), (.ref b1), (.ref b1)])) _
    refine XS.iadd Xo112.here hx rfl (hb hby at_180) rfl ?_
    show Steps p.tables e below (T109.setTop (mkF m 181 #[.val (.int sd), .val (.int xs), .val (.int ys), .val (.int ws0), .val (.int hs), .val (.long pk), .second, .val (.int sd), .unset, .unset, .unset, .unset, .unset, .unset, .unset, .unset, .unset, .unset, .unset, .unset, .unset] [(.int (sd + (18 : Int32))), (.int (18 : Int32)), (.ref b1), (.ref b1)])) _
    refine XT.i2b Xo112.here hx rfl (hb hby at_181) rfl ?_
    show Steps p.tables e below (T109.setTop (mkF m 182 #[.val (.int sd), .val (.int xs), .val (.int ys), .val (.int ws0), .val (.int hs), .val (.long pk), .second, .val (.int sd), .unset, .unset, .unset, .unset, .unset, .unset, .unset, .unset, .unset, .unset, .unset, .unset, .unset] [(.int ((sd + (18 : Int32)).toInt8.toInt32)), (.int (18 : Int32)), (.ref b1), (.ref b1)])) _
    exact k
  obtain ⟨cc115, Ar115, q1_115, Sz115, q3_115, Hs115, G115⟩ := id V109
  have hin115 : ¬ ((18 : Int32) < 0 ∨ cc115.slots.size ≤ ((18 : Int32) : Int32).toNatClampNeg) := inb_of Sz115 ⟨(by decide), (by decide)⟩
  obtain ⟨T115, h115, X115, e115, W115, st115⟩ := stB Xo112 hx hZ e109 Ar115 hin115 (g := (mkF m 182 #[.val (.int sd), .val (.int xs), .val (.int ys), .val (.int ws0), .val (.int hs), .val (.long pk), .second, .val (.int sd), .unset, .unset, .unset, .unset, .unset, .unset, .unset, .unset, .unset, .unset, .unset, .unset, .unset] [(.int ((sd + (18 : Int32)).toInt8.toInt32)), (.int (18 : Int32)), (.ref b1), (.ref b1)])) rfl rfl (hb hby at_182)
  have N115 := Fr.snoc X115 No112 g_b1
  have V115 : Arv Z h115 b1 cA3 .byte (48 : Int32) [(.int (nar .byte (sd.toInt8.toInt32))), (.int (nar .byte ((sd + (1 : Int32)).toInt8.toInt32))), (.int (nar .byte ((sd + (2 : Int32)).toInt8.toInt32))), (.int (nar .byte ((sd + (3 : Int32)).toInt8.toInt32))), (.int (nar .byte ((sd + (4 : Int32)).toInt8.toInt32))), (.int (nar .byte ((sd + (5 : Int32)).toInt8.toInt32))), (.int (nar .byte ((sd + (6 : Int32)).toInt8.toInt32))), (.int (nar .byte ((sd + (7 : Int32)).toInt8.toInt32))), (.int (nar .byte ((sd + (8 : Int32)).toInt8.toInt32))), (.int (nar .byte ((sd + (9 : Int32)).toInt8.toInt32))), (.int (nar .byte ((sd + (10 : Int32)).toInt8.toInt32))), (.int (nar .byte ((sd + (11 : Int32)).toInt8.toInt32))), (.int (nar .byte ((sd + (12 : Int32)).toInt8.toInt32))), (.int (nar .byte ((sd + (13 : Int32)).toInt8.toInt32))), (.int (nar .byte ((sd + (14 : Int32)).toInt8.toInt32))), (.int (nar .byte ((sd + (15 : Int32)).toInt8.toInt32))), (.int (nar .byte ((sd + (16 : Int32)).toInt8.toInt32))), (.int (nar .byte ((sd + (17 : Int32)).toInt8.toInt32))), (.int (nar .byte ((sd + (18 : Int32)).toInt8.toInt32))), (.int (0 : Int32)), (.int (0 : Int32)), (.int (0 : Int32)), (.int (0 : Int32)), (.int (0 : Int32)), (.int (0 : Int32)), (.int (0 : Int32)), (.int (0 : Int32)), (.int (0 : Int32)), (.int (0 : Int32)), (.int (0 : Int32)), (.int (0 : Int32)), (.int (0 : Int32)), (.int (0 : Int32)), (.int (0 : Int32)), (.int (0 : Int32)), (.int (0 : Int32)), (.int (0 : Int32)), (.int (0 : Int32)), (.int (0 : Int32)), (.int (0 : Int32)), (.int (0 : Int32)), (.int (0 : Int32)), (.int (0 : Int32)), (.int (0 : Int32)), (.int (0 : Int32)), (.int (0 : Int32)), (.int (0 : Int32)), (.int (0 : Int32))] (.int (0 : Int32)) := Arv.set Ar115 q1_115 Sz115 q3_115 Hs115 G115 (fits_nar_byte _) W115 18 (by decide) (show 18 < 48 by decide)
  have pre117 : ∀ t, Steps p.tables e below (T115.setTop (mkF m 183 #[.val (.int sd), .val (.int xs), .val (.int ys), .val (.int ws0), .val (.int hs), .val (.long pk), .second, .val (.int sd), .unset, .unset, .unset, .unset, .unset, .unset, .unset, .unset, .unset, .unset, .unset, .unset, .unset] [(.ref b1)])) t → Steps p.tables e below (s₁.setTop (entryFrame m #[(.int sd), (.int xs), (.int ys), (.int ws0), (.int hs), (.long pk)] maxLocals)) t := fun t k => pre114 t (st115 t k)
  obtain ⟨Lo118, Xo118, No118⟩ : ∃ L, Stand p l e room_1 s m #[(.int sd), (.int xs), (.int ys), (.int ws0), (.int hs), (.long pk)] below meth c T115 L 1 48 ∧ Fr n0 L := ⟨_, X115, N115⟩
  have E119_0 : Exa Z h115 b1 "[B" := (E113_0.wr W115)
  have Z119 : n0 ≤ h115.size := (Nat.le_trans Z113 (Nat.le_of_eq W115.size.symm))
  have pre120 : ∀ t, Steps p.tables e below (T115.setTop (mkF m 192 #[.val (.int sd), .val (.int xs), .val (.int ys), .val (.int ws0), .val (.int hs), .val (.long pk), .second, .val (.int sd), .unset, .unset, .unset, .unset, .unset, .unset, .unset, .unset, .unset, .unset, .unset, .unset, .unset] [(.int ((sd + (19 : Int32)).toInt8.toInt32)), (.int (19 : Int32)), (.ref b1), (.ref b1)])) t → Steps p.tables e below (s₁.setTop (entryFrame m #[(.int sd), (.int xs), (.int ys), (.int ws0), (.int hs), (.long pk)] maxLocals)) t := by
    intro t k
    refine pre117 t ?_
    refine XS.dup Xo118.here hx rfl (hb hby at_183) rfl rfl ?_
    show Steps p.tables e below (T115.setTop (mkF m 184 #[.val (.int sd), .val (.int xs), .val (.int ys), .val (.int ws0), .val (.int hs), .val (.long pk), .second, .val (.int sd), .unset, .unset, .unset, .unset, .unset, .unset, .unset, .unset, .unset, .unset, .unset, .unset, .unset] [(.ref b1), (.ref b1)])) _
    refine XS.bipush Xo118.here hx rfl (hb hby at_184) ?_
    show Steps p.tables e below (T115.setTop (mkF m 186 #[.val (.int sd), .val (.int xs), .val (.int ys), .val (.int ws0), .val (.int hs), .val (.long pk), .second, .val (.int sd), .unset, .unset, .unset, .unset, .unset, .unset, .unset, .unset, .unset, .unset, .unset, .unset, .unset] [(.int (19 : Int32)), (.ref b1), (.ref b1)])) _
    refine XS.iload Xo118.here hx rfl (hb hby at_186) rfl ?_
    show Steps p.tables e below (T115.setTop (mkF m 188 #[.val (.int sd), .val (.int xs), .val (.int ys), .val (.int ws0), .val (.int hs), .val (.long pk), .second, .val (.int sd), .unset, .unset, .unset, .unset, .unset, .unset, .unset, .unset, .unset, .unset, .unset, .unset, .unset] [(.int sd), (.int (19 : Int32)), (.ref b1), (.ref b1)])) _
    refine XS.bipush Xo118.here hx rfl (hb hby at_188) ?_
    show Steps p.tables e below (T115.setTop (mkF m 190 #[.val (.int sd), .val (.int xs), .val (.int ys), .val (.int ws0), .val (.int hs), .val (.long pk), .second, .val (.int sd), .unset, .unset, .unset, .unset, .unset, .unset, .unset, .unset, .unset, .unset, .unset, .unset, .unset] [(.int (19 : Int32)), (.int sd), (.int (19 : Int32)), (.ref b1), (.ref b1)])) _
    refine XS.iadd Xo118.here hx rfl (hb hby at_190) rfl ?_
    show Steps p.tables e below (T115.setTop (mkF m 191 #[.val (.int sd), .val (.int xs), .val (.int ys), .val (.int ws0), .val (.int hs), .val (.long pk), .second, .val (.int sd), .unset, .unset, .unset, .unset, .unset, .unset, .unset, .unset, .unset, .unset, .unset, .unset, .unset] [(.int (sd + (19 : Int32))), (.int (19 : Int32)), (.ref b1), (.ref b1)])) _
    refine XT.i2b Xo118.here hx rfl (hb hby at_191) rfl ?_
    show Steps p.tables e below (T115.setTop (mkF m 192 #[.val (.int sd), .val (.int xs), .val (.int ys), .val (.int ws0), .val (.int hs), .val (.long pk), .second, .val (.int sd), .unset, .unset, .unset, .unset, .unset, .unset, .unset, .unset, .unset, .unset, .unset, .unset, .unset] [(.int ((sd + (19 : Int32)).toInt8.toInt32)), (.int (19 : Int32)), (.ref b1), (.ref b1)])) _
    exact k
  obtain ⟨cc121, Ar121, q1_121, Sz121, q3_121, Hs121, G121⟩ := id V115
  have hin121 : ¬ ((19 : Int32) < 0 ∨ cc121.slots.size ≤ ((19 : Int32) : Int32).toNatClampNeg) := inb_of Sz121 ⟨(by decide), (by decide)⟩
  obtain ⟨T121, h121, X121, e121, W121, st121⟩ := stB Xo118 hx hZ e115 Ar121 hin121 (g := (mkF m 192 #[.val (.int sd), .val (.int xs), .val (.int ys), .val (.int ws0), .val (.int hs), .val (.long pk), .second, .val (.int sd), .unset, .unset, .unset, .unset, .unset, .unset, .unset, .unset, .unset, .unset, .unset, .unset, .unset] [(.int ((sd + (19 : Int32)).toInt8.toInt32)), (.int (19 : Int32)), (.ref b1), (.ref b1)])) rfl rfl (hb hby at_192)
  have N121 := Fr.snoc X121 No118 g_b1
  have V121 : Arv Z h121 b1 cA3 .byte (48 : Int32) [(.int (nar .byte (sd.toInt8.toInt32))), (.int (nar .byte ((sd + (1 : Int32)).toInt8.toInt32))), (.int (nar .byte ((sd + (2 : Int32)).toInt8.toInt32))), (.int (nar .byte ((sd + (3 : Int32)).toInt8.toInt32))), (.int (nar .byte ((sd + (4 : Int32)).toInt8.toInt32))), (.int (nar .byte ((sd + (5 : Int32)).toInt8.toInt32))), (.int (nar .byte ((sd + (6 : Int32)).toInt8.toInt32))), (.int (nar .byte ((sd + (7 : Int32)).toInt8.toInt32))), (.int (nar .byte ((sd + (8 : Int32)).toInt8.toInt32))), (.int (nar .byte ((sd + (9 : Int32)).toInt8.toInt32))), (.int (nar .byte ((sd + (10 : Int32)).toInt8.toInt32))), (.int (nar .byte ((sd + (11 : Int32)).toInt8.toInt32))), (.int (nar .byte ((sd + (12 : Int32)).toInt8.toInt32))), (.int (nar .byte ((sd + (13 : Int32)).toInt8.toInt32))), (.int (nar .byte ((sd + (14 : Int32)).toInt8.toInt32))), (.int (nar .byte ((sd + (15 : Int32)).toInt8.toInt32))), (.int (nar .byte ((sd + (16 : Int32)).toInt8.toInt32))), (.int (nar .byte ((sd + (17 : Int32)).toInt8.toInt32))), (.int (nar .byte ((sd + (18 : Int32)).toInt8.toInt32))), (.int (nar .byte ((sd + (19 : Int32)).toInt8.toInt32))), (.int (0 : Int32)), (.int (0 : Int32)), (.int (0 : Int32)), (.int (0 : Int32)), (.int (0 : Int32)), (.int (0 : Int32)), (.int (0 : Int32)), (.int (0 : Int32)), (.int (0 : Int32)), (.int (0 : Int32)), (.int (0 : Int32)), (.int (0 : Int32)), (.int (0 : Int32)), (.int (0 : Int32)), (.int (0 : Int32)), (.int (0 : Int32)), (.int (0 : Int32)), (.int (0 : Int32)), (.int (0 : Int32)), (.int (0 : Int32)), (.int (0 : Int32)), (.int (0 : Int32)), (.int (0 : Int32)), (.int (0 : Int32)), (.int (0 : Int32)), (.int (0 : Int32)), (.int (0 : Int32)), (.int (0 : Int32))] (.int (0 : Int32)) := Arv.set Ar121 q1_121 Sz121 q3_121 Hs121 G121 (fits_nar_byte _) W121 19 (by decide) (show 19 < 48 by decide)
  have pre123 : ∀ t, Steps p.tables e below (T121.setTop (mkF m 193 #[.val (.int sd), .val (.int xs), .val (.int ys), .val (.int ws0), .val (.int hs), .val (.long pk), .second, .val (.int sd), .unset, .unset, .unset, .unset, .unset, .unset, .unset, .unset, .unset, .unset, .unset, .unset, .unset] [(.ref b1)])) t → Steps p.tables e below (s₁.setTop (entryFrame m #[(.int sd), (.int xs), (.int ys), (.int ws0), (.int hs), (.long pk)] maxLocals)) t := fun t k => pre120 t (st121 t k)
  obtain ⟨Lo124, Xo124, No124⟩ : ∃ L, Stand p l e room_1 s m #[(.int sd), (.int xs), (.int ys), (.int ws0), (.int hs), (.long pk)] below meth c T121 L 1 48 ∧ Fr n0 L := ⟨_, X121, N121⟩
  have E125_0 : Exa Z h121 b1 "[B" := (E119_0.wr W121)
  have Z125 : n0 ≤ h121.size := (Nat.le_trans Z119 (Nat.le_of_eq W121.size.symm))
  have pre126 : ∀ t, Steps p.tables e below (T121.setTop (mkF m 202 #[.val (.int sd), .val (.int xs), .val (.int ys), .val (.int ws0), .val (.int hs), .val (.long pk), .second, .val (.int sd), .unset, .unset, .unset, .unset, .unset, .unset, .unset, .unset, .unset, .unset, .unset, .unset, .unset] [(.int ((sd + (20 : Int32)).toInt8.toInt32)), (.int (20 : Int32)), (.ref b1), (.ref b1)])) t → Steps p.tables e below (s₁.setTop (entryFrame m #[(.int sd), (.int xs), (.int ys), (.int ws0), (.int hs), (.long pk)] maxLocals)) t := by
    intro t k
    refine pre123 t ?_
    refine XS.dup Xo124.here hx rfl (hb hby at_193) rfl rfl ?_
    show Steps p.tables e below (T121.setTop (mkF m 194 #[.val (.int sd), .val (.int xs), .val (.int ys), .val (.int ws0), .val (.int hs), .val (.long pk), .second, .val (.int sd), .unset, .unset, .unset, .unset, .unset, .unset, .unset, .unset, .unset, .unset, .unset, .unset, .unset] [(.ref b1), (.ref b1)])) _
    refine XS.bipush Xo124.here hx rfl (hb hby at_194) ?_
    show Steps p.tables e below (T121.setTop (mkF m 196 #[.val (.int sd), .val (.int xs), .val (.int ys), .val (.int ws0), .val (.int hs), .val (.long pk), .second, .val (.int sd), .unset, .unset, .unset, .unset, .unset, .unset, .unset, .unset, .unset, .unset, .unset, .unset, .unset] [(.int (20 : Int32)), (.ref b1), (.ref b1)])) _
    refine XS.iload Xo124.here hx rfl (hb hby at_196) rfl ?_
    show Steps p.tables e below (T121.setTop (mkF m 198 #[.val (.int sd), .val (.int xs), .val (.int ys), .val (.int ws0), .val (.int hs), .val (.long pk), .second, .val (.int sd), .unset, .unset, .unset, .unset, .unset, .unset, .unset, .unset, .unset, .unset, .unset, .unset, .unset] [(.int sd), (.int (20 : Int32)), (.ref b1), (.ref b1)])) _
    refine XS.bipush Xo124.here hx rfl (hb hby at_198) ?_
    show Steps p.tables e below (T121.setTop (mkF m 200 #[.val (.int sd), .val (.int xs), .val (.int ys), .val (.int ws0), .val (.int hs), .val (.long pk), .second, .val (.int sd), .unset, .unset, .unset, .unset, .unset, .unset, .unset, .unset, .unset, .unset, .unset, .unset, .unset] [(.int (20 : Int32)), (.int sd), (.int (20 : Int32)), (.ref b1), (.ref b1)])) _
    refine XS.iadd Xo124.here hx rfl (hb hby at_200) rfl ?_
    show Steps p.tables e below (T121.setTop (mkF m 201 #[.val (.int sd), .val (.int xs), .val (.int ys), .val (.int ws0), .val (.int hs), .val (.long pk), .second, .val (.int sd), .unset, .unset, .unset, .unset, .unset, .unset, .unset, .unset, .unset, .unset, .unset, .unset, .unset] [(.int (sd + (20 : Int32))), (.int (20 : Int32)), (.ref b1), (.ref b1)])) _
    refine XT.i2b Xo124.here hx rfl (hb hby at_201) rfl ?_
    show Steps p.tables e below (T121.setTop (mkF m 202 #[.val (.int sd), .val (.int xs), .val (.int ys), .val (.int ws0), .val (.int hs), .val (.long pk), .second, .val (.int sd), .unset, .unset, .unset, .unset, .unset, .unset, .unset, .unset, .unset, .unset, .unset, .unset, .unset] [(.int ((sd + (20 : Int32)).toInt8.toInt32)), (.int (20 : Int32)), (.ref b1), (.ref b1)])) _
    exact k
  obtain ⟨cc127, Ar127, q1_127, Sz127, q3_127, Hs127, G127⟩ := id V121
  have hin127 : ¬ ((20 : Int32) < 0 ∨ cc127.slots.size ≤ ((20 : Int32) : Int32).toNatClampNeg) := inb_of Sz127 ⟨(by decide), (by decide)⟩
  obtain ⟨T127, h127, X127, e127, W127, st127⟩ := stB Xo124 hx hZ e121 Ar127 hin127 (g := (mkF m 202 #[.val (.int sd), .val (.int xs), .val (.int ys), .val (.int ws0), .val (.int hs), .val (.long pk), .second, .val (.int sd), .unset, .unset, .unset, .unset, .unset, .unset, .unset, .unset, .unset, .unset, .unset, .unset, .unset] [(.int ((sd + (20 : Int32)).toInt8.toInt32)), (.int (20 : Int32)), (.ref b1), (.ref b1)])) rfl rfl (hb hby at_202)
  have N127 := Fr.snoc X127 No124 g_b1
  have V127 : Arv Z h127 b1 cA3 .byte (48 : Int32) [(.int (nar .byte (sd.toInt8.toInt32))), (.int (nar .byte ((sd + (1 : Int32)).toInt8.toInt32))), (.int (nar .byte ((sd + (2 : Int32)).toInt8.toInt32))), (.int (nar .byte ((sd + (3 : Int32)).toInt8.toInt32))), (.int (nar .byte ((sd + (4 : Int32)).toInt8.toInt32))), (.int (nar .byte ((sd + (5 : Int32)).toInt8.toInt32))), (.int (nar .byte ((sd + (6 : Int32)).toInt8.toInt32))), (.int (nar .byte ((sd + (7 : Int32)).toInt8.toInt32))), (.int (nar .byte ((sd + (8 : Int32)).toInt8.toInt32))), (.int (nar .byte ((sd + (9 : Int32)).toInt8.toInt32))), (.int (nar .byte ((sd + (10 : Int32)).toInt8.toInt32))), (.int (nar .byte ((sd + (11 : Int32)).toInt8.toInt32))), (.int (nar .byte ((sd + (12 : Int32)).toInt8.toInt32))), (.int (nar .byte ((sd + (13 : Int32)).toInt8.toInt32))), (.int (nar .byte ((sd + (14 : Int32)).toInt8.toInt32))), (.int (nar .byte ((sd + (15 : Int32)).toInt8.toInt32))), (.int (nar .byte ((sd + (16 : Int32)).toInt8.toInt32))), (.int (nar .byte ((sd + (17 : Int32)).toInt8.toInt32))), (.int (nar .byte ((sd + (18 : Int32)).toInt8.toInt32))), (.int (nar .byte ((sd + (19 : Int32)).toInt8.toInt32))), (.int (nar .byte ((sd + (20 : Int32)).toInt8.toInt32))), (.int (0 : Int32)), (.int (0 : Int32)), (.int (0 : Int32)), (.int (0 : Int32)), (.int (0 : Int32)), (.int (0 : Int32)), (.int (0 : Int32)), (.int (0 : Int32)), (.int (0 : Int32)), (.int (0 : Int32)), (.int (0 : Int32)), (.int (0 : Int32)), (.int (0 : Int32)), (.int (0 : Int32)), (.int (0 : Int32)), (.int (0 : Int32)), (.int (0 : Int32)), (.int (0 : Int32)), (.int (0 : Int32)), (.int (0 : Int32)), (.int (0 : Int32)), (.int (0 : Int32)), (.int (0 : Int32)), (.int (0 : Int32)), (.int (0 : Int32)), (.int (0 : Int32)), (.int (0 : Int32))] (.int (0 : Int32)) := Arv.set Ar127 q1_127 Sz127 q3_127 Hs127 G127 (fits_nar_byte _) W127 20 (by decide) (show 20 < 48 by decide)
  have pre129 : ∀ t, Steps p.tables e below (T127.setTop (mkF m 203 #[.val (.int sd), .val (.int xs), .val (.int ys), .val (.int ws0), .val (.int hs), .val (.long pk), .second, .val (.int sd), .unset, .unset, .unset, .unset, .unset, .unset, .unset, .unset, .unset, .unset, .unset, .unset, .unset] [(.ref b1)])) t → Steps p.tables e below (s₁.setTop (entryFrame m #[(.int sd), (.int xs), (.int ys), (.int ws0), (.int hs), (.long pk)] maxLocals)) t := fun t k => pre126 t (st127 t k)
  obtain ⟨Lo130, Xo130, No130⟩ : ∃ L, Stand p l e room_1 s m #[(.int sd), (.int xs), (.int ys), (.int ws0), (.int hs), (.long pk)] below meth c T127 L 1 48 ∧ Fr n0 L := ⟨_, X127, N127⟩
  have E131_0 : Exa Z h127 b1 "[B" := (E125_0.wr W127)
  have Z131 : n0 ≤ h127.size := (Nat.le_trans Z125 (Nat.le_of_eq W127.size.symm))
  have pre132 : ∀ t, Steps p.tables e below (T127.setTop (mkF m 212 #[.val (.int sd), .val (.int xs), .val (.int ys), .val (.int ws0), .val (.int hs), .val (.long pk), .second, .val (.int sd), .unset, .unset, .unset, .unset, .unset, .unset, .unset, .unset, .unset, .unset, .unset, .unset, .unset] [(.int ((sd + (21 : Int32)).toInt8.toInt32)), (.int (21 : Int32)), (.ref b1), (.ref b1)])) t → Steps p.tables e below (s₁.setTop (entryFrame m #[(.int sd), (.int xs), (.int ys), (.int ws0), (.int hs), (.long pk)] maxLocals)) t := by
    intro t k
    refine pre129 t ?_
    refine XS.dup Xo130.here hx rfl (hb hby at_203) rfl rfl ?_
    show Steps p.tables e below (T127.setTop (mkF m 204 #[.val (.int sd), .val (.int xs), .val (.int ys), .val (.int ws0), .val (.int hs), .val (.long pk), .second, .val (.int sd), .unset, .unset, .unset, .unset, .unset, .unset, .unset, .unset, .unset, .unset, .unset, .unset, .unset] [(.ref b1), (.ref b1)])) _
    refine XS.bipush Xo130.here hx rfl (hb hby at_204) ?_
    show Steps p.tables e below (T127.setTop (mkF m 206 #[.val (.int sd), .val (.int xs), .val (.int ys), .val (.int ws0), .val (.int hs), .val (.long pk), .second, .val (.int sd), .unset, .unset, .unset, .unset, .unset, .unset, .unset, .unset, .unset, .unset, .unset, .unset, .unset] [(.int (21 : Int32)), (.ref b1), (.ref b1)])) _
    refine XS.iload Xo130.here hx rfl (hb hby at_206) rfl ?_
    show Steps p.tables e below (T127.setTop (mkF m 208 #[.val (.int sd), .val (.int xs), .val (.int ys), .val (.int ws0), .val (.int hs), .val (.long pk), .second, .val (.int sd), .unset, .unset, .unset, .unset, .unset, .unset, .unset, .unset, .unset, .unset, .unset, .unset, .unset] [(.int sd), (.int (21 : Int32)), (.ref b1), (.ref b1)])) _
    refine XS.bipush Xo130.here hx rfl (hb hby at_208) ?_
    show Steps p.tables e below (T127.setTop (mkF m 210 #[.val (.int sd), .val (.int xs), .val (.int ys), .val (.int ws0), .val (.int hs), .val (.long pk), .second, .val (.int sd), .unset, .unset, .unset, .unset, .unset, .unset, .unset, .unset, .unset, .unset, .unset, .unset, .unset] [(.int (21 : Int32)), (.int sd), (.int (21 : Int32)), (.ref b1), (.ref b1)])) _
    refine XS.iadd Xo130.here hx rfl (hb hby at_210) rfl ?_
    show Steps p.tables e below (T127.setTop (mkF m 211 #[.val (.int sd), .val (.int xs), .val (.int ys), .val (.int ws0), .val (.int hs), .val (.long pk), .second, .val (.int sd), .unset, .unset, .unset, .unset, .unset, .unset, .unset, .unset, .unset, .unset, .unset, .unset, .unset] [(.int (sd + (21 : Int32))), (.int (21 : Int32)), (.ref b1), (.ref b1)])) _
    refine XT.i2b Xo130.here hx rfl (hb hby at_211) rfl ?_
    show Steps p.tables e below (T127.setTop (mkF m 212 #[.val (.int sd), .val (.int xs), .val (.int ys), .val (.int ws0), .val (.int hs), .val (.long pk), .second, .val (.int sd), .unset, .unset, .unset, .unset, .unset, .unset, .unset, .unset, .unset, .unset, .unset, .unset, .unset] [(.int ((sd + (21 : Int32)).toInt8.toInt32)), (.int (21 : Int32)), (.ref b1), (.ref b1)])) _
    exact k
  obtain ⟨cc133, Ar133, q1_133, Sz133, q3_133, Hs133, G133⟩ := id V127
  have hin133 : ¬ ((21 : Int32) < 0 ∨ cc133.slots.size ≤ ((21 : Int32) : Int32).toNatClampNeg) := inb_of Sz133 ⟨(by decide), (by decide)⟩
  obtain ⟨T133, h133, X133, e133, W133, st133⟩ := stB Xo130 hx hZ e127 Ar133 hin133 (g := (mkF m 212 #[.val (.int sd), .val (.int xs), .val (.int ys), .val (.int ws0), .val (.int hs), .val (.long pk), .second, .val (.int sd), .unset, .unset, .unset, .unset, .unset, .unset, .unset, .unset, .unset, .unset, .unset, .unset, .unset] [(.int ((sd + (21 : Int32)).toInt8.toInt32)), (.int (21 : Int32)), (.ref b1), (.ref b1)])) rfl rfl (hb hby at_212)
  have N133 := Fr.snoc X133 No130 g_b1
  have V133 : Arv Z h133 b1 cA3 .byte (48 : Int32) [(.int (nar .byte (sd.toInt8.toInt32))), (.int (nar .byte ((sd + (1 : Int32)).toInt8.toInt32))), (.int (nar .byte ((sd + (2 : Int32)).toInt8.toInt32))), (.int (nar .byte ((sd + (3 : Int32)).toInt8.toInt32))), (.int (nar .byte ((sd + (4 : Int32)).toInt8.toInt32))), (.int (nar .byte ((sd + (5 : Int32)).toInt8.toInt32))), (.int (nar .byte ((sd + (6 : Int32)).toInt8.toInt32))), (.int (nar .byte ((sd + (7 : Int32)).toInt8.toInt32))), (.int (nar .byte ((sd + (8 : Int32)).toInt8.toInt32))), (.int (nar .byte ((sd + (9 : Int32)).toInt8.toInt32))), (.int (nar .byte ((sd + (10 : Int32)).toInt8.toInt32))), (.int (nar .byte ((sd + (11 : Int32)).toInt8.toInt32))), (.int (nar .byte ((sd + (12 : Int32)).toInt8.toInt32))), (.int (nar .byte ((sd + (13 : Int32)).toInt8.toInt32))), (.int (nar .byte ((sd + (14 : Int32)).toInt8.toInt32))), (.int (nar .byte ((sd + (15 : Int32)).toInt8.toInt32))), (.int (nar .byte ((sd + (16 : Int32)).toInt8.toInt32))), (.int (nar .byte ((sd + (17 : Int32)).toInt8.toInt32))), (.int (nar .byte ((sd + (18 : Int32)).toInt8.toInt32))), (.int (nar .byte ((sd + (19 : Int32)).toInt8.toInt32))), (.int (nar .byte ((sd + (20 : Int32)).toInt8.toInt32))), (.int (nar .byte ((sd + (21 : Int32)).toInt8.toInt32))), (.int (0 : Int32)), (.int (0 : Int32)), (.int (0 : Int32)), (.int (0 : Int32)), (.int (0 : Int32)), (.int (0 : Int32)), (.int (0 : Int32)), (.int (0 : Int32)), (.int (0 : Int32)), (.int (0 : Int32)), (.int (0 : Int32)), (.int (0 : Int32)), (.int (0 : Int32)), (.int (0 : Int32)), (.int (0 : Int32)), (.int (0 : Int32)), (.int (0 : Int32)), (.int (0 : Int32)), (.int (0 : Int32)), (.int (0 : Int32)), (.int (0 : Int32)), (.int (0 : Int32)), (.int (0 : Int32)), (.int (0 : Int32)), (.int (0 : Int32)), (.int (0 : Int32))] (.int (0 : Int32)) := Arv.set Ar133 q1_133 Sz133 q3_133 Hs133 G133 (fits_nar_byte _) W133 21 (by decide) (show 21 < 48 by decide)
  have pre135 : ∀ t, Steps p.tables e below (T133.setTop (mkF m 213 #[.val (.int sd), .val (.int xs), .val (.int ys), .val (.int ws0), .val (.int hs), .val (.long pk), .second, .val (.int sd), .unset, .unset, .unset, .unset, .unset, .unset, .unset, .unset, .unset, .unset, .unset, .unset, .unset] [(.ref b1)])) t → Steps p.tables e below (s₁.setTop (entryFrame m #[(.int sd), (.int xs), (.int ys), (.int ws0), (.int hs), (.long pk)] maxLocals)) t := fun t k => pre132 t (st133 t k)
  obtain ⟨Lo136, Xo136, No136⟩ : ∃ L, Stand p l e room_1 s m #[(.int sd), (.int xs), (.int ys), (.int ws0), (.int hs), (.long pk)] below meth c T133 L 1 48 ∧ Fr n0 L := ⟨_, X133, N133⟩
  have E137_0 : Exa Z h133 b1 "[B" := (E131_0.wr W133)
  have Z137 : n0 ≤ h133.size := (Nat.le_trans Z131 (Nat.le_of_eq W133.size.symm))
  have pre138 : ∀ t, Steps p.tables e below (T133.setTop (mkF m 222 #[.val (.int sd), .val (.int xs), .val (.int ys), .val (.int ws0), .val (.int hs), .val (.long pk), .second, .val (.int sd), .unset, .unset, .unset, .unset, .unset, .unset, .unset, .unset, .unset, .unset, .unset, .unset, .unset] [(.int ((sd + (22 : Int32)).toInt8.toInt32)), (.int (22 : Int32)), (.ref b1), (.ref b1)])) t → Steps p.tables e below (s₁.setTop (entryFrame m #[(.int sd), (.int xs), (.int ys), (.int ws0), (.int hs), (.long pk)] maxLocals)) t := by
    intro t k
    refine pre135 t ?_
    refine XS.dup Xo136.here hx rfl (hb hby at_213) rfl rfl ?_
    show Steps p.tables e below (T133.setTop (mkF m 214 #[.val (.int sd), .val (.int xs), .val (.int ys), .val (.int ws0), .val (.int hs), .val (.long pk), .second, .val (.int sd), .unset, .unset, .unset, .unset, .unset, .unset, .unset, .unset, .unset, .unset, .unset, .unset, .unset] [(.ref b1), (.ref b1)])) _
    refine XS.bipush Xo136.here hx rfl (hb hby at_214) ?_
    show Steps p.tables e below (T133.setTop (mkF m 216 #[.val (.int sd), .val (.int xs), .val (.int ys), .val (.int ws0), .val (.int hs), .val (.long pk), .second, .val (.int sd), .unset, .unset, .unset, .unset, .unset, .unset, .unset, .unset, .unset, .unset, .unset, .unset, .unset] [(.int (22 : Int32)), (.ref b1), (.ref b1)])) _
    refine XS.iload Xo136.here hx rfl (hb hby at_216) rfl ?_
    show Steps p.tables e below (T133.setTop (mkF m 218 #[.val (.int sd), .val (.int xs), .val (.int ys), .val (.int ws0), .val (.int hs), .val (.long pk), .second, .val (.int sd), .unset, .unset, .unset, .unset, .unset, .unset, .unset, .unset, .unset, .unset, .unset, .unset, .unset] [(.int sd), (.int (22 : Int32)), (.ref b1), (.ref b1)])) _
    refine XS.bipush Xo136.here hx rfl (hb hby at_218) ?_
    show Steps p.tables e below (T133.setTop (mkF m 220 #[.val (.int sd), .val (.int xs), .val (.int ys), .val (.int ws0), .val (.int hs), .val (.long pk), .second, .val (.int sd), .unset, .unset, .unset, .unset, .unset, .unset, .unset, .unset, .unset, .unset, .unset, .unset, .unset] [(.int (22 : Int32)), (.int sd), (.int (22 : Int32)), (.ref b1), (.ref b1)])) _
    refine XS.iadd Xo136.here hx rfl (hb hby at_220) rfl ?_
    show Steps p.tables e below (T133.setTop (mkF m 221 #[.val (.int sd), .val (.int xs), .val (.int ys), .val (.int ws0), .val (.int hs), .val (.long pk), .second, .val (.int sd), .unset, .unset, .unset, .unset, .unset, .unset, .unset, .unset, .unset, .unset, .unset, .unset, .unset] [(.int (sd + (22 : Int32))), (.int (22 : Int32)), (.ref b1), (.ref b1)])) _
    refine XT.i2b Xo136.here hx rfl (hb hby at_221) rfl ?_
    show Steps p.tables e below (T133.setTop (mkF m 222 #[.val (.int sd), .val (.int xs), .val (.int ys), .val (.int ws0), .val (.int hs), .val (.long pk), .second, .val (.int sd), .unset, .unset, .unset, .unset, .unset, .unset, .unset, .unset, .unset, .unset, .unset, .unset, .unset] [(.int ((sd + (22 : Int32)).toInt8.toInt32)), (.int (22 : Int32)), (.ref b1), (.ref b1)])) _
    exact k
  obtain ⟨cc139, Ar139, q1_139, Sz139, q3_139, Hs139, G139⟩ := id V133
  have hin139 : ¬ ((22 : Int32) < 0 ∨ cc139.slots.size ≤ ((22 : Int32) : Int32).toNatClampNeg) := inb_of Sz139 ⟨(by decide), (by decide)⟩
  obtain ⟨T139, h139, X139, e139, W139, st139⟩ := stB Xo136 hx hZ e133 Ar139 hin139 (g := (mkF m 222 #[.val (.int sd), .val (.int xs), .val (.int ys), .val (.int ws0), .val (.int hs), .val (.long pk), .second, .val (.int sd), .unset, .unset, .unset, .unset, .unset, .unset, .unset, .unset, .unset, .unset, .unset, .unset, .unset] [(.int ((sd + (22 : Int32)).toInt8.toInt32)), (.int (22 : Int32)), (.ref b1), (.ref b1)])) rfl rfl (hb hby at_222)
  have N139 := Fr.snoc X139 No136 g_b1
  have V139 : Arv Z h139 b1 cA3 .byte (48 : Int32) [(.int (nar .byte (sd.toInt8.toInt32))), (.int (nar .byte ((sd + (1 : Int32)).toInt8.toInt32))), (.int (nar .byte ((sd + (2 : Int32)).toInt8.toInt32))), (.int (nar .byte ((sd + (3 : Int32)).toInt8.toInt32))), (.int (nar .byte ((sd + (4 : Int32)).toInt8.toInt32))), (.int (nar .byte ((sd + (5 : Int32)).toInt8.toInt32))), (.int (nar .byte ((sd + (6 : Int32)).toInt8.toInt32))), (.int (nar .byte ((sd + (7 : Int32)).toInt8.toInt32))), (.int (nar .byte ((sd + (8 : Int32)).toInt8.toInt32))), (.int (nar .byte ((sd + (9 : Int32)).toInt8.toInt32))), (.int (nar .byte ((sd + (10 : Int32)).toInt8.toInt32))), (.int (nar .byte ((sd + (11 : Int32)).toInt8.toInt32))), (.int (nar .byte ((sd + (12 : Int32)).toInt8.toInt32))), (.int (nar .byte ((sd + (13 : Int32)).toInt8.toInt32))), (.int (nar .byte ((sd + (14 : Int32)).toInt8.toInt32))), (.int (nar .byte ((sd + (15 : Int32)).toInt8.toInt32))), (.int (nar .byte ((sd + (16 : Int32)).toInt8.toInt32))), (.int (nar .byte ((sd + (17 : Int32)).toInt8.toInt32))), (.int (nar .byte ((sd + (18 : Int32)).toInt8.toInt32))), (.int (nar .byte ((sd + (19 : Int32)).toInt8.toInt32))), (.int (nar .byte ((sd + (20 : Int32)).toInt8.toInt32))), (.int (nar .byte ((sd + (21 : Int32)).toInt8.toInt32))), (.int (nar .byte ((sd + (22 : Int32)).toInt8.toInt32))), (.int (0 : Int32)), (.int (0 : Int32)), (.int (0 : Int32)), (.int (0 : Int32)), (.int (0 : Int32)), (.int (0 : Int32)), (.int (0 : Int32)), (.int (0 : Int32)), (.int (0 : Int32)), (.int (0 : Int32)), (.int (0 : Int32)), (.int (0 : Int32)), (.int (0 : Int32)), (.int (0 : Int32)), (.int (0 : Int32)), (.int (0 : Int32)), (.int (0 : Int32)), (.int (0 : Int32)), (.int (0 : Int32)), (.int (0 : Int32)), (.int (0 : Int32)), (.int (0 : Int32)), (.int (0 : Int32)), (.int (0 : Int32)), (.int (0 : Int32))] (.int (0 : Int32)) := Arv.set Ar139 q1_139 Sz139 q3_139 Hs139 G139 (fits_nar_byte _) W139 22 (by decide) (show 22 < 48 by decide)
  have pre141 : ∀ t, Steps p.tables e below (T139.setTop (mkF m 223 #[.val (.int sd), .val (.int xs), .val (.int ys), .val (.int ws0), .val (.int hs), .val (.long pk), .second, .val (.int sd), .unset, .unset, .unset, .unset, .unset, .unset, .unset, .unset, .unset, .unset, .unset, .unset, .unset] [(.ref b1)])) t → Steps p.tables e below (s₁.setTop (entryFrame m #[(.int sd), (.int xs), (.int ys), (.int ws0), (.int hs), (.long pk)] maxLocals)) t := fun t k => pre138 t (st139 t k)
  obtain ⟨Lo142, Xo142, No142⟩ : ∃ L, Stand p l e room_1 s m #[(.int sd), (.int xs), (.int ys), (.int ws0), (.int hs), (.long pk)] below meth c T139 L 1 48 ∧ Fr n0 L := ⟨_, X139, N139⟩
  have E143_0 : Exa Z h139 b1 "[B" := (E137_0.wr W139)
  have Z143 : n0 ≤ h139.size := (Nat.le_trans Z137 (Nat.le_of_eq W139.size.symm))
  have pre144 : ∀ t, Steps p.tables e below (T139.setTop (mkF m 232 #[.val (.int sd), .val (.int xs), .val (.int ys), .val (.int ws0), .val (.int hs), .val (.long pk), .second, .val (.int sd), .unset, .unset, .unset, .unset, .unset, .unset, .unset, .unset, .unset, .unset, .unset, .unset, .unset] [(.int ((sd + (23 : Int32)).toInt8.toInt32)), (.int (23 : Int32)), (.ref b1), (.ref b1)])) t → Steps p.tables e below (s₁.setTop (entryFrame m #[(.int sd), (.int xs), (.int ys), (.int ws0), (.int hs), (.long pk)] maxLocals)) t := by
    intro t k
    refine pre141 t ?_
    refine XS.dup Xo142.here hx rfl (hb hby at_223) rfl rfl ?_
    show Steps p.tables e below (T139.setTop (mkF m 224 #[.val (.int sd), .val (.int xs), .val (.int ys), .val (.int ws0), .val (.int hs), .val (.long pk), .second, .val (.int sd), .unset, .unset, .unset, .unset, .unset, .unset, .unset, .unset, .unset, .unset, .unset, .unset, .unset] [(.ref b1), (.ref b1)])) _
    refine XS.bipush Xo142.here hx rfl (hb hby at_224) ?_
    show Steps p.tables e below (T139.setTop (mkF m 226 #[.val (.int sd), .val (.int xs), .val (.int ys), .val (.int ws0), .val (.int hs), .val (.long pk), .second, .val (.int sd), .unset, .unset, .unset, .unset, .unset, .unset, .unset, .unset, .unset, .unset, .unset, .unset, .unset] [(.int (23 : Int32)), (.ref b1), (.ref b1)])) _
    refine XS.iload Xo142.here hx rfl (hb hby at_226) rfl ?_
    show Steps p.tables e below (T139.setTop (mkF m 228 #[.val (.int sd), .val (.int xs), .val (.int ys), .val (.int ws0), .val (.int hs), .val (.long pk), .second, .val (.int sd), .unset, .unset, .unset, .unset, .unset, .unset, .unset, .unset, .unset, .unset, .unset, .unset, .unset] [(.int sd), (.int (23 : Int32)), (.ref b1), (.ref b1)])) _
    refine XS.bipush Xo142.here hx rfl (hb hby at_228) ?_
    show Steps p.tables e below (T139.setTop (mkF m 230 #[.val (.int sd), .val (.int xs), .val (.int ys), .val (.int ws0), .val (.int hs), .val (.long pk), .second, .val (.int sd), .unset, .unset, .unset, .unset, .unset, .unset, .unset, .unset, .unset, .unset, .unset, .unset, .unset] [(.int (23 : Int32)), (.int sd), (.int (23 : Int32)), (.ref b1), (.ref b1)])) _
    refine XS.iadd Xo142.here hx rfl (hb hby at_230) rfl ?_
    show Steps p.tables e below (T139.setTop (mkF m 231 #[.val (.int sd), .val (.int xs), .val (.int ys), .val (.int ws0), .val (.int hs), .val (.long pk), .second, .val (.int sd), .unset, .unset, .unset, .unset, .unset, .unset, .unset, .unset, .unset, .unset, .unset, .unset, .unset] [(.int (sd + (23 : Int32))), (.int (23 : Int32)), (.ref b1), (.ref b1)])) _
    refine XT.i2b Xo142.here hx rfl (hb hby at_231) rfl ?_
    show Steps p.tables e below (T139.setTop (mkF m 232 #[.val (.int sd), .val (.int xs), .val (.int ys), .val (.int ws0), .val (.int hs), .val (.long pk), .second, .val (.int sd), .unset, .unset, .unset, .unset, .unset, .unset, .unset, .unset, .unset, .unset, .unset, .unset, .unset] [(.int ((sd + (23 : Int32)).toInt8.toInt32)), (.int (23 : Int32)), (.ref b1), (.ref b1)])) _
    exact k
  obtain ⟨cc145, Ar145, q1_145, Sz145, q3_145, Hs145, G145⟩ := id V139
  have hin145 : ¬ ((23 : Int32) < 0 ∨ cc145.slots.size ≤ ((23 : Int32) : Int32).toNatClampNeg) := inb_of Sz145 ⟨(by decide), (by decide)⟩
  obtain ⟨T145, h145, X145, e145, W145, st145⟩ := stB Xo142 hx hZ e139 Ar145 hin145 (g := (mkF m 232 #[.val (.int sd), .val (.int xs), .val (.int ys), .val (.int ws0), .val (.int hs), .val (.long pk), .second, .val (.int sd), .unset, .unset, .unset, .unset, .unset, .unset, .unset, .unset, .unset, .unset, .unset, .unset, .unset] [(.int ((sd + (23 : Int32)).toInt8.toInt32)), (.int (23 : Int32)), (.ref b1), (.ref b1)])) rfl rfl (hb hby at_232)
  have N145 := Fr.snoc X145 No142 g_b1
  have V145 : Arv Z h145 b1 cA3 .byte (48 : Int32) [(.int (nar .byte (sd.toInt8.toInt32))), (.int (nar .byte ((sd + (1 : Int32)).toInt8.toInt32))), (.int (nar .byte ((sd + (2 : Int32)).toInt8.toInt32))), (.int (nar .byte ((sd + (3 : Int32)).toInt8.toInt32))), (.int (nar .byte ((sd + (4 : Int32)).toInt8.toInt32))), (.int (nar .byte ((sd + (5 : Int32)).toInt8.toInt32))), (.int (nar .byte ((sd + (6 : Int32)).toInt8.toInt32))), (.int (nar .byte ((sd + (7 : Int32)).toInt8.toInt32))), (.int (nar .byte ((sd + (8 : Int32)).toInt8.toInt32))), (.int (nar .byte ((sd + (9 : Int32)).toInt8.toInt32))), (.int (nar .byte ((sd + (10 : Int32)).toInt8.toInt32))), (.int (nar .byte ((sd + (11 : Int32)).toInt8.toInt32))), (.int (nar .byte ((sd + (12 : Int32)).toInt8.toInt32))), (.int (nar .byte ((sd + (13 : Int32)).toInt8.toInt32))), (.int (nar .byte ((sd + (14 : Int32)).toInt8.toInt32))), (.int (nar .byte ((sd + (15 : Int32)).toInt8.toInt32))), (.int (nar .byte ((sd + (16 : Int32)).toInt8.toInt32))), (.int (nar .byte ((sd + (17 : Int32)).toInt8.toInt32))), (.int (nar .byte ((sd + (18 : Int32)).toInt8.toInt32))), (.int (nar .byte ((sd + (19 : Int32)).toInt8.toInt32))), (.int (nar .byte ((sd + (20 : Int32)).toInt8.toInt32))), (.int (nar .byte ((sd + (21 : Int32)).toInt8.toInt32))), (.int (nar .byte ((sd + (22 : Int32)).toInt8.toInt32))), (.int (nar .byte ((sd + (23 : Int32)).toInt8.toInt32))), (.int (0 : Int32)), (.int (0 : Int32)), (.int (0 : Int32)), (.int (0 : Int32)), (.int (0 : Int32)), (.int (0 : Int32)), (.int (0 : Int32)), (.int (0 : Int32)), (.int (0 : Int32)), (.int (0 : Int32)), (.int (0 : Int32)), (.int (0 : Int32)), (.int (0 : Int32)), (.int (0 : Int32)), (.int (0 : Int32)), (.int (0 : Int32)), (.int (0 : Int32)), (.int (0 : Int32)), (.int (0 : Int32)), (.int (0 : Int32)), (.int (0 : Int32)), (.int (0 : Int32)), (.int (0 : Int32)), (.int (0 : Int32))] (.int (0 : Int32)) := Arv.set Ar145 q1_145 Sz145 q3_145 Hs145 G145 (fits_nar_byte _) W145 23 (by decide) (show 23 < 48 by decide)
  have pre147 : ∀ t, Steps p.tables e below (T145.setTop (mkF m 233 #[.val (.int sd), .val (.int xs), .val (.int ys), .val (.int ws0), .val (.int hs), .val (.long pk), .second, .val (.int sd), .unset, .unset, .unset, .unset, .unset, .unset, .unset, .unset, .unset, .unset, .unset, .unset, .unset] [(.ref b1)])) t → Steps p.tables e below (s₁.setTop (entryFrame m #[(.int sd), (.int xs), (.int ys), (.int ws0), (.int hs), (.long pk)] maxLocals)) t := fun t k => pre144 t (st145 t k)
  obtain ⟨Lo148, Xo148, No148⟩ : ∃ L, Stand p l e room_1 s m #[(.int sd), (.int xs), (.int ys), (.int ws0), (.int hs), (.long pk)] below meth c T145 L 1 48 ∧ Fr n0 L := ⟨_, X145, N145⟩
  have E149_0 : Exa Z h145 b1 "[B" := (E143_0.wr W145)
  have Z149 : n0 ≤ h145.size := (Nat.le_trans Z143 (Nat.le_of_eq W145.size.symm))
  have pre150 : ∀ t, Steps p.tables e below (T145.setTop (mkF m 242 #[.val (.int sd), .val (.int xs), .val (.int ys), .val (.int ws0), .val (.int hs), .val (.long pk), .second, .val (.int sd), .unset, .unset, .unset, .unset, .unset, .unset, .unset, .unset, .unset, .unset, .unset, .unset, .unset] [(.int ((sd + (24 : Int32)).toInt8.toInt32)), (.int (24 : Int32)), (.ref b1), (.ref b1)])) t → Steps p.tables e below (s₁.setTop (entryFrame m #[(.int sd), (.int xs), (.int ys), (.int ws0), (.int hs), (.long pk)] maxLocals)) t := by
    intro t k
    refine pre147 t ?_
    refine XS.dup Xo148.here hx rfl (hb hby at_233) rfl rfl ?_
    show Steps p.tables e below (T145.setTop (mkF m 234 #[.val (.int sd), .val (.int xs), .val (.int ys), .val (.int ws0), .val (.int hs), .val (.long pk), .second, .val (.int sd), .unset, .unset, .unset, .unset, .unset, .unset, .unset, .unset, .unset, .unset, .unset, .unset, .unset] [(.ref b1), (.ref b1)])) _
    refine XS.bipush Xo148.here hx rfl (hb hby at_234) ?_
    show Steps p.tables e below (T145.setTop (mkF m 236 #[.val (.int sd), .val (.int xs), .val (.int ys), .val (.int ws0), .val (.int hs), .val (.long pk), .second, .val (.int sd), .unset, .unset, .unset, .unset, .unset, .unset, .unset, .unset, .unset, .unset, .unset, .unset, .unset] [(.int (24 : Int32)), (.ref b1), (.ref b1)])) _
    refine XS.iload Xo148.here hx rfl (hb hby at_236) rfl ?_
    show Steps p.tables e below (T145.setTop (mkF m 238 #[.val (.int sd), .val (.int xs), .val (.int ys), .val (.int ws0), .val (.int hs), .val (.long pk), .second, .val (.int sd), .unset, .unset, .unset, .unset, .unset, .unset, .unset, .unset, .unset, .unset, .unset, .unset, .unset] [(.int sd), (.int (24 : Int32)), (.ref b1), (.ref b1)])) _
    refine XS.bipush Xo148.here hx rfl (hb hby at_238) ?_
    show Steps p.tables e below (T145.setTop (mkF m 240 #[.val (.int sd), .val (.int xs), .val (.int ys), .val (.int ws0), .val (.int hs), .val (.long pk), .second, .val (.int sd), .unset, .unset, .unset, .unset, .unset, .unset, .unset, .unset, .unset, .unset, .unset, .unset, .unset] [(.int (24 : Int32)), (.int sd), (.int (24 : Int32)), (.ref b1), (.ref b1)])) _
    refine XS.iadd Xo148.here hx rfl (hb hby at_240) rfl ?_
    show Steps p.tables e below (T145.setTop (mkF m 241 #[.val (.int sd), .val (.int xs), .val (.int ys), .val (.int ws0), .val (.int hs), .val (.long pk), .second, .val (.int sd), .unset, .unset, .unset, .unset, .unset, .unset, .unset, .unset, .unset, .unset, .unset, .unset, .unset] [(.int (sd + (24 : Int32))), (.int (24 : Int32)), (.ref b1), (.ref b1)])) _
    refine XT.i2b Xo148.here hx rfl (hb hby at_241) rfl ?_
    show Steps p.tables e below (T145.setTop (mkF m 242 #[.val (.int sd), .val (.int xs), .val (.int ys), .val (.int ws0), .val (.int hs), .val (.long pk), .second, .val (.int sd), .unset, .unset, .unset, .unset, .unset, .unset, .unset, .unset, .unset, .unset, .unset, .unset, .unset] [(.int ((sd + (24 : Int32)).toInt8.toInt32)), (.int (24 : Int32)), (.ref b1), (.ref b1)])) _
    exact k
  obtain ⟨cc151, Ar151, q1_151, Sz151, q3_151, Hs151, G151⟩ := id V145
  have hin151 : ¬ ((24 : Int32) < 0 ∨ cc151.slots.size ≤ ((24 : Int32) : Int32).toNatClampNeg) := inb_of Sz151 ⟨(by decide), (by decide)⟩
  obtain ⟨T151, h151, X151, e151, W151, st151⟩ := stB Xo148 hx hZ e145 Ar151 hin151 (g := (mkF m 242 #[.val (.int sd), .val (.int xs), .val (.int ys), .val (.int ws0), .val (.int hs), .val (.long pk), .second, .val (.int sd), .unset, .unset, .unset, .unset, .unset, .unset, .unset, .unset, .unset, .unset, .unset, .unset, .unset] [(.int ((sd + (24 : Int32)).toInt8.toInt32)), (.int (24 : Int32)), (.ref b1), (.ref b1)])) rfl rfl (hb hby at_242)
  have N151 := Fr.snoc X151 No148 g_b1
  have V151 : Arv Z h151 b1 cA3 .byte (48 : Int32) [(.int (nar .byte (sd.toInt8.toInt32))), (.int (nar .byte ((sd + (1 : Int32)).toInt8.toInt32))), (.int (nar .byte ((sd + (2 : Int32)).toInt8.toInt32))), (.int (nar .byte ((sd + (3 : Int32)).toInt8.toInt32))), (.int (nar .byte ((sd + (4 : Int32)).toInt8.toInt32))), (.int (nar .byte ((sd + (5 : Int32)).toInt8.toInt32))), (.int (nar .byte ((sd + (6 : Int32)).toInt8.toInt32))), (.int (nar .byte ((sd + (7 : Int32)).toInt8.toInt32))), (.int (nar .byte ((sd + (8 : Int32)).toInt8.toInt32))), (.int (nar .byte ((sd + (9 : Int32)).toInt8.toInt32))), (.int (nar .byte ((sd + (10 : Int32)).toInt8.toInt32))), (.int (nar .byte ((sd + (11 : Int32)).toInt8.toInt32))), (.int (nar .byte ((sd + (12 : Int32)).toInt8.toInt32))), (.int (nar .byte ((sd + (13 : Int32)).toInt8.toInt32))), (.int (nar .byte ((sd + (14 : Int32)).toInt8.toInt32))), (.int (nar .byte ((sd + (15 : Int32)).toInt8.toInt32))), (.int (nar .byte ((sd + (16 : Int32)).toInt8.toInt32))), (.int (nar .byte ((sd + (17 : Int32)).toInt8.toInt32))), (.int (nar .byte ((sd + (18 : Int32)).toInt8.toInt32))), (.int (nar .byte ((sd + (19 : Int32)).toInt8.toInt32))), (.int (nar .byte ((sd + (20 : Int32)).toInt8.toInt32))), (.int (nar .byte ((sd + (21 : Int32)).toInt8.toInt32))), (.int (nar .byte ((sd + (22 : Int32)).toInt8.toInt32))), (.int (nar .byte ((sd + (23 : Int32)).toInt8.toInt32))), (.int (nar .byte ((sd + (24 : Int32)).toInt8.toInt32))), (.int (0 : Int32)), (.int (0 : Int32)), (.int (0 : Int32)), (.int (0 : Int32)), (.int (0 : Int32)), (.int (0 : Int32)), (.int (0 : Int32)), (.int (0 : Int32)), (.int (0 : Int32)), (.int (0 : Int32)), (.int (0 : Int32)), (.int (0 : Int32)), (.int (0 : Int32)), (.int (0 : Int32)), (.int (0 : Int32)), (.int (0 : Int32)), (.int (0 : Int32)), (.int (0 : Int32)), (.int (0 : Int32)), (.int (0 : Int32)), (.int (0 : Int32)), (.int (0 : Int32)), (.int (0 : Int32))] (.int (0 : Int32)) := Arv.set Ar151 q1_151 Sz151 q3_151 Hs151 G151 (fits_nar_byte _) W151 24 (by decide) (show 24 < 48 by decide)
  have pre153 : ∀ t, Steps p.tables e below (T151.setTop (mkF m 243 #[.val (.int sd), .val (.int xs), .val (.int ys), .val (.int ws0), .val (.int hs), .val (.long pk), .second, .val (.int sd), .unset, .unset, .unset, .unset, .unset, .unset, .unset, .unset, .unset, .unset, .unset, .unset, .unset] [(.ref b1)])) t → Steps p.tables e below (s₁.setTop (entryFrame m #[(.int sd), (.int xs), (.int ys), (.int ws0), (.int hs), (.long pk)] maxLocals)) t := fun t k => pre150 t (st151 t k)
  obtain ⟨Lo154, Xo154, No154⟩ : ∃ L, Stand p l e room_1 s m #[(.int sd), (.int xs), (.int ys), (.int ws0), (.int hs), (.long pk)] below meth c T151 L 1 48 ∧ Fr n0 L := ⟨_, X151, N151⟩
  have E155_0 : Exa Z h151 b1 "[B" := (E149_0.wr W151)
  have Z155 : n0 ≤ h151.size := (Nat.le_trans Z149 (Nat.le_of_eq W151.size.symm))
  have pre156 : ∀ t, Steps p.tables e below (T151.setTop (mkF m 252 #[.val (.int sd), .val (.int xs), .val (.int ys), .val (.int ws0), .val (.int hs), .val (.long pk), .second, .val (.int sd), .unset, .unset, .unset, .unset, .unset, .unset, .unset, .unset, .unset, .unset, .unset, .unset, .unset] [(.int ((sd + (25 : Int32)).toInt8.toInt32)), (.int (25 : Int32)), (.ref b1), (.ref b1)])) t → Steps p.tables e below (s₁.setTop (entryFrame m #[(.int sd), (.int xs), (.int ys), (.int ws0), (.int hs), (.long pk)] maxLocals)) t := by
    intro t k
    refine pre153 t ?_
    refine XS.dup Xo154.here hx rfl (hb hby at_243) rfl rfl ?_
    show Steps p.tables e below (T151.setTop (mkF m 244 #[.val (.int sd), .val (.int xs), .val (.int ys), .val (.int ws0), .val (.int hs), .val (.long pk), .second, .val (.int sd), .unset, .unset, .unset, .unset, .unset, .unset, .unset, .unset, .unset, .unset, .unset, .unset, .unset] [(.ref b1), (.ref b1)])) _
    refine XS.bipush Xo154.here hx rfl (hb hby at_244) ?_
    show Steps p.tables e below (T151.setTop (mkF m 246 #[.val (.int sd), .val (.int xs), .val (.int ys), .val (.int ws0), .val (.int hs), .val (.long pk), .second, .val (.int sd), .unset, .unset, .unset, .unset, .unset, .unset, .unset, .unset, .unset, .unset, .unset, .unset, .unset] [(.int (25 : Int32)), (.ref b1), (.ref b1)])) _
    refine XS.iload Xo154.here hx rfl (hb hby at_246) rfl ?_
    show Steps p.tables e below (T151.setTop (mkF m 248 #[.val (.int sd), .val (.int xs), .val (.int ys), .val (.int ws0), .val (.int hs), .val (.long pk), .second, .val (.int sd), .unset, .unset, .unset, .unset, .unset, .unset, .unset, .unset, .unset, .unset, .unset, .unset, .unset] [(.int sd), (.int (25 : Int32)), (.ref b1), (.ref b1)])) _
    refine XS.bipush Xo154.here hx rfl (hb hby at_248) ?_
    show Steps p.tables e below (T151.setTop (mkF m 250 #[.val (.int sd), .val (.int xs), .val (.int ys), .val (.int ws0), .val (.int hs), .val (.long pk), .second, .val (.int sd), .unset, .unset, .unset, .unset, .unset, .unset, .unset, .unset, .unset, .unset, .unset, .unset, .unset] [(.int (25 : Int32)), (.int sd), (.int (25 : Int32)), (.ref b1), (.ref b1)])) _
    refine XS.iadd Xo154.here hx rfl (hb hby at_250) rfl ?_
    show Steps p.tables e below (T151.setTop (mkF m 251 #[.val (.int sd), .val (.int xs), .val (.int ys), .val (.int ws0), .val (.int hs), .val (.long pk), .second, .val (.int sd), .unset, .unset, .unset, .unset, .unset, .unset, .unset, .unset, .unset, .unset, .unset, .unset, .unset] [(.int (sd + (25 : Int32))), (.int (25 : Int32)), (.ref b1), (.ref b1)])) _
    refine XT.i2b Xo154.here hx rfl (hb hby at_251) rfl ?_
    show Steps p.tables e below (T151.setTop (mkF m 252 #[.val (.int sd), .val (.int xs), .val (.int ys), .val (.int ws0), .val (.int hs), .val (.long pk), .second, .val (.int sd), .unset, .unset, .unset, .unset, .unset, .unset, .unset, .unset, .unset, .unset, .unset, .unset, .unset] [(.int ((sd + (25 : Int32)).toInt8.toInt32)), (.int (25 : Int32)), (.ref b1), (.ref b1)])) _
    exact k
  obtain ⟨cc157, Ar157, q1_157, Sz157, q3_157, Hs157, G157⟩ := id V151
  have hin157 : ¬ ((25 : Int32) < 0 ∨ cc157.slots.size ≤ ((25 : Int32) : Int32).toNatClampNeg) := inb_of Sz157 ⟨(by decide), (by decide)⟩
  obtain ⟨T157, h157, X157, e157, W157, st157⟩ := stB Xo154 hx hZ e151 Ar157 hin157 (g := (mkF m 252 #[.val (.int sd), .val (.int xs), .val (.int ys), .val (.int ws0), .val (.int hs), .val (.long pk), .second, .val (.int sd), .unset, .unset, .unset, .unset, .unset, .unset, .unset, .unset, .unset, .unset, .unset, .unset, .unset] [(.int ((sd + (25 : Int32)).toInt8.toInt32)), (.int (25 : Int32)), (.ref b1), (.ref b1)])) rfl rfl (hb hby at_252)
  have N157 := Fr.snoc X157 No154 g_b1
  have V157 : Arv Z h157 b1 cA3 .byte (48 : Int32) [(.int (nar .byte (sd.toInt8.toInt32))), (.int (nar .byte ((sd + (1 : Int32)).toInt8.toInt32))), (.int (nar .byte ((sd + (2 : Int32)).toInt8.toInt32))), (.int (nar .byte ((sd + (3 : Int32)).toInt8.toInt32))), (.int (nar .byte ((sd + (4 : Int32)).toInt8.toInt32))), (.int (nar .byte ((sd + (5 : Int32)).toInt8.toInt32))), (.int (nar .byte ((sd + (6 : Int32)).toInt8.toInt32))), (.int (nar .byte ((sd + (7 : Int32)).toInt8.toInt32))), (.int (nar .byte ((sd + (8 : Int32)).toInt8.toInt32))), (.int (nar .byte ((sd + (9 : Int32)).toInt8.toInt32))), (.int (nar .byte ((sd + (10 : Int32)).toInt8.toInt32))), (.int (nar .byte ((sd + (11 : Int32)).toInt8.toInt32))), (.int (nar .byte ((sd + (12 : Int32)).toInt8.toInt32))), (.int (nar .byte ((sd + (13 : Int32)).toInt8.toInt32))), (.int (nar .byte ((sd + (14 : Int32)).toInt8.toInt32))), (.int (nar .byte ((sd + (15 : Int32)).toInt8.toInt32))), (.int (nar .byte ((sd + (16 : Int32)).toInt8.toInt32))), (.int (nar .byte ((sd + (17 : Int32)).toInt8.toInt32))), (.int (nar .byte ((sd + (18 : Int32)).toInt8.toInt32))), (.int (nar .byte ((sd + (19 : Int32)).toInt8.toInt32))), (.int (nar .byte ((sd + (20 : Int32)).toInt8.toInt32))), (.int (nar .byte ((sd + (21 : Int32)).toInt8.toInt32))), (.int (nar .byte ((sd + (22 : Int32)).toInt8.toInt32))), (.int (nar .byte ((sd + (23 : Int32)).toInt8.toInt32))), (.int (nar .byte ((sd + (24 : Int32)).toInt8.toInt32))), (.int (nar .byte ((sd + (25 : Int32)).toInt8.toInt32))), (.int (0 : Int32)), (.int (0 : Int32)), (.int (0 : Int32)), (.int (0 : Int32)), (.int (0 : Int32)), (.int (0 : Int32)), (.int (0 : Int32)), (.int (0 : Int32)), (.int (0 : Int32)), (.int (0 : Int32)), (.int (0 : Int32)), (.int (0 : Int32)), (.int (0 : Int32)), (.int (0 : Int32)), (.int (0 : Int32)), (.int (0 : Int32)), (.int (0 : Int32)), (.int (0 : Int32)), (.int (0 : Int32)), (.int (0 : Int32)), (.int (0 : Int32)), (.int (0 : Int32))] (.int (0 : Int32)) := Arv.set Ar157 q1_157 Sz157 q3_157 Hs157 G157 (fits_nar_byte _) W157 25 (by decide) (show 25 < 48 by decide)
  have pre159 : ∀ t, Steps p.tables e below (T157.setTop (mkF m 253 #[.val (.int sd), .val (.int xs), .val (.int ys), .val (.int ws0), .val (.int hs), .val (.long pk), .second, .val (.int sd), .unset, .unset, .unset, .unset, .unset, .unset, .unset, .unset, .unset, .unset, .unset, .unset, .unset] [(.ref b1)])) t → Steps p.tables e below (s₁.setTop (entryFrame m #[(.int sd), (.int xs), (.int ys), (.int ws0), (.int hs), (.long pk)] maxLocals)) t := fun t k => pre156 t (st157 t k)
  obtain ⟨Lo160, Xo160, No160⟩ : ∃ L, Stand p l e room_1 s m #[(.int sd), (.int xs), (.int ys), (.int ws0), (.int hs), (.long pk)] below meth c T157 L 1 48 ∧ Fr n0 L := ⟨_, X157, N157⟩
  have E161_0 : Exa Z h157 b1 "[B" := (E155_0.wr W157)
  have Z161 : n0 ≤ h157.size := (Nat.le_trans Z155 (Nat.le_of_eq W157.size.symm))
  have pre162 : ∀ t, Steps p.tables e below (T157.setTop (mkF m 262 #[.val (.int sd), .val (.int xs), .val (.int ys), .val (.int ws0), .val (.int hs), .val (.long pk), .second, .val (.int sd), .unset, .unset, .unset, .unset, .unset, .unset, .unset, .unset, .unset, .unset, .unset, .unset, .unset] [(.int ((sd + (26 : Int32)).toInt8.toInt32)), (.int (26 : Int32)), (.ref b1), (.ref b1)])) t → Steps p.tables e below (s₁.setTop (entryFrame m #[(.int sd), (.int xs), (.int ys), (.int ws0), (.int hs), (.long pk)] maxLocals)) t := by
    intro t k
    refine pre159 t ?_
    refine XS.dup Xo160.here hx rfl (hb hby at_253) rfl rfl ?_
    show Steps p.tables e below (T157.setTop (mkF m 254 #[.val (.int sd), .val (.int xs), .val (.int ys), .val (.int ws0), .val (.int hs), .val (.long pk), .second, .val (.int sd), .unset, .unset, .unset, .unset, .unset, .unset, .unset, .unset, .unset, .unset, .unset, .unset, .unset] [(.ref b1), (.ref b1)])) _
    refine XS.bipush Xo160.here hx rfl (hb hby at_254) ?_
    show Steps p.tables e below (T157.setTop (mkF m 256 #[.val (.int sd), .val (.int xs), .val (.int ys), .val (.int ws0), .val (.int hs), .val (.long pk), .second, .val (.int sd), .unset, .unset, .unset, .unset, .unset, .unset, .unset, .unset, .unset, .unset, .unset, .unset, .unset] [(.int (26 : Int32)), (.ref b1), (.ref b1)])) _
    refine XS.iload Xo160.here hx rfl (hb hby at_256) rfl ?_
    show Steps p.tables e below (T157.setTop (mkF m 258 #[.val (.int sd), .val (.int xs), .val (.int ys), .val (.int ws0), .val (.int hs), .val (.long pk), .second, .val (.int sd), .unset, .unset, .unset, .unset, .unset, .unset, .unset, .unset, .unset, .unset, .unset, .unset, .unset] [(.int sd), (.int (26 : Int32)), (.ref b1), (.ref b1)])) _
    refine XS.bipush Xo160.here hx rfl (hb hby at_258) ?_
    show Steps p.tables e below (T157.setTop (mkF m 260 #[.val (.int sd), .val (.int xs), .val (.int ys), .val (.int ws0), .val (.int hs), .val (.long pk), .second, .val (.int sd), .unset, .unset, .unset, .unset, .unset, .unset, .unset, .unset, .unset, .unset, .unset, .unset, .unset] [(.int (26 : Int32)), (.int sd), (.int (26 : Int32)), (.ref b1), (.ref b1)])) _
    refine XS.iadd Xo160.here hx rfl (hb hby at_260) rfl ?_
    show Steps p.tables e below (T157.setTop (mkF m 261 #[.val (.int sd), .val (.int xs), .val (.int ys), .val (.int ws0), .val (.int hs), .val (.long pk), .second, .val (.int sd), .unset, .unset, .unset, .unset, .unset, .unset, .unset, .unset, .unset, .unset, .unset, .unset, .unset] [(.int (sd + (26 : Int32))), (.int (26 : Int32)), (.ref b1), (.ref b1)])) _
    refine XT.i2b Xo160.here hx rfl (hb hby at_261) rfl ?_
    show Steps p.tables e below (T157.setTop (mkF m 262 #[.val (.int sd), .val (.int xs), .val (.int ys), .val (.int ws0), .val (.int hs), .val (.long pk), .second, .val (.int sd), .unset, .unset, .unset, .unset, .unset, .unset, .unset, .unset, .unset, .unset, .unset, .unset, .unset] [(.int ((sd + (26 : Int32)).toInt8.toInt32)), (.int (26 : Int32)), (.ref b1), (.ref b1)])) _
    exact k
  obtain ⟨cc163, Ar163, q1_163, Sz163, q3_163, Hs163, G163⟩ := id V157
  have hin163 : ¬ ((26 : Int32) < 0 ∨ cc163.slots.size ≤ ((26 : Int32) : Int32).toNatClampNeg) := inb_of Sz163 ⟨(by decide), (by decide)⟩
  obtain ⟨T163, h163, X163, e163, W163, st163⟩ := stB Xo160 hx hZ e157 Ar163 hin163 (g := (mkF m 262 #[.val (.int sd), .val (.int xs), .val (.int ys), .val (.int ws0), .val (.int hs), .val (.long pk), .second, .val (.int sd), .unset, .unset, .unset, .unset, .unset, .unset, .unset, .unset, .unset, .unset, .unset, .unset, .unset] [(.int ((sd + (26 : Int32)).toInt8.toInt32)), (.int (26 : Int32)), (.ref b1), (.ref b1)])) rfl rfl (hb hby at_262)
  have N163 := Fr.snoc X163 No160 g_b1
  have V163 : Arv Z h163 b1 cA3 .byte (48 : Int32) [(.int (nar .byte (sd.toInt8.toInt32))), (.int (nar .byte ((sd + (1 : Int32)).toInt8.toInt32))), (.int (nar .byte ((sd + (2 : Int32)).toInt8.toInt32))), (.int (nar .byte ((sd + (3 : Int32)).toInt8.toInt32))), (.int (nar .byte ((sd + (4 : Int32)).toInt8.toInt32))), (.int (nar .byte ((sd + (5 : Int32)).toInt8.toInt32))), (.int (nar .byte ((sd + (6 : Int32)).toInt8.toInt32))), (.int (nar .byte ((sd + (7 : Int32)).toInt8.toInt32))), (.int (nar .byte ((sd + (8 : Int32)).toInt8.toInt32))), (.int (nar .byte ((sd + (9 : Int32)).toInt8.toInt32))), (.int (nar .byte ((sd + (10 : Int32)).toInt8.toInt32))), (.int (nar .byte ((sd + (11 : Int32)).toInt8.toInt32))), (.int (nar .byte ((sd + (12 : Int32)).toInt8.toInt32))), (.int (nar .byte ((sd + (13 : Int32)).toInt8.toInt32))), (.int (nar .byte ((sd + (14 : Int32)).toInt8.toInt32))), (.int (nar .byte ((sd + (15 : Int32)).toInt8.toInt32))), (.int (nar .byte ((sd + (16 : Int32)).toInt8.toInt32))), (.int (nar .byte ((sd + (17 : Int32)).toInt8.toInt32))), (.int (nar .byte ((sd + (18 : Int32)).toInt8.toInt32))), (.int (nar .byte ((sd + (19 : Int32)).toInt8.toInt32))), (.int (nar .byte ((sd + (20 : Int32)).toInt8.toInt32))), (.int (nar .byte ((sd + (21 : Int32)).toInt8.toInt32))), (.int (nar .byte ((sd + (22 : Int32)).toInt8.toInt32))), (.int (nar .byte ((sd + (23 : Int32)).toInt8.toInt32))), (.int (nar .byte ((sd + (24 : Int32)).toInt8.toInt32))), (.int (nar .byte ((sd + (25 : Int32)).toInt8.toInt32))), (.int (nar .byte ((sd + (26 : Int32)).toInt8.toInt32))), (.int (0 : Int32)), (.int (0 : Int32)), (.int (0 : Int32)), (.int (0 : Int32)), (.int (0 : Int32)), (.int (0 : Int32)), (.int (0 : Int32)), (.int (0 : Int32)), (.int (0 : Int32)), (.int (0 : Int32)), (.int (0 : Int32)), (.int (0 : Int32)), (.int (0 : Int32)), (.int (0 : Int32)), (.int (0 : Int32)), (.int (0 : Int32)), (.int (0 : Int32)), (.int (0 : Int32)), (.int (0 : Int32)), (.int (0 : Int32)), (.int (0 : Int32))] (.int (0 : Int32)) := Arv.set Ar163 q1_163 Sz163 q3_163 Hs163 G163 (fits_nar_byte _) W163 26 (by decide) (show 26 < 48 by decide)
  have pre165 : ∀ t, Steps p.tables e below (T163.setTop (mkF m 263 #[.val (.int sd), .val (.int xs), .val (.int ys), .val (.int ws0), .val (.int hs), .val (.long pk), .second, .val (.int sd), .unset, .unset, .unset, .unset, .unset, .unset, .unset, .unset, .unset, .unset, .unset, .unset, .unset] [(.ref b1)])) t → Steps p.tables e below (s₁.setTop (entryFrame m #[(.int sd), (.int xs), (.int ys), (.int ws0), (.int hs), (.long pk)] maxLocals)) t := fun t k => pre162 t (st163 t k)
  obtain ⟨Lo166, Xo166, No166⟩ : ∃ L, Stand p l e room_1 s m #[(.int sd), (.int xs), (.int ys), (.int ws0), (.int hs), (.long pk)] below meth c T163 L 1 48 ∧ Fr n0 L := ⟨_, X163, N163⟩
  have E167_0 : Exa Z h163 b1 "[B" := (E161_0.wr W163)
  have Z167 : n0 ≤ h163.size := (Nat.le_trans Z161 (Nat.le_of_eq W163.size.symm))
  have pre168 : ∀ t, Steps p.tables e below (T163.setTop (mkF m 272 #[.val (.int sd), .val (.int xs), .val (.int ys), .val (.int ws0), .val (.int hs), .val (.long pk), .second, .val (.int sd), .unset, .unset, .unset, .unset, .unset, .unset, .unset, .unset, .unset, .unset, .unset, .unset, .unset] [(.int ((sd + (27 : Int32)).toInt8.toInt32)), (.int (27 : Int32)), (.ref b1), (.ref b1)])) t → Steps p.tables e below (s₁.setTop (entryFrame m #[(.int sd), (.int xs), (.int ys), (.int ws0), (.int hs), (.long pk)] maxLocals)) t := by
    intro t k
    refine pre165 t ?_
    refine XS.dup Xo166.here hx rfl (hb hby at_263) rfl rfl ?_
    show Steps p.tables e below (T163.setTop (mkF m 264 #[.val (.int sd), .val (.int xs), .val (.int ys), .val (.int ws0), .val (.int hs), .val (.long pk), .second, .val (.int sd), .unset, .unset, .unset, .unset, .unset, .unset, .unset, .unset, .unset, .unset, .unset, .unset, .unset] [(.ref b1), (.ref b1)])) _
    refine XS.bipush Xo166.here hx rfl (hb hby at_264) ?_
    show Steps p.tables e below (T163.setTop (mkF m 266 #[.val (.int sd), .val (.int xs), .val (.int ys), .val (.int ws0), .val (.int hs), .val (.long pk), .second, .val (.int sd), .unset, .unset, .unset, .unset, .unset, .unset, .unset, .unset, .unset, .unset, .unset, .unset, .unset] [(.int (27 : Int32)), (.ref b1), (.ref b1)])) _
    refine XS.iload Xo166.here hx rfl (hb hby at_266) rfl ?_
    show Steps p.tables e below (T163.setTop (mkF m 268 #[.val (.int sd), .val (.int xs), .val (.int ys), .val (.int ws0), .val (.int hs), .val (.long pk), .second, .val (.int sd), .unset, .unset, .unset, .unset, .unset, .unset, .unset, .unset, .unset, .unset, .unset, .unset, .unset] [(.int sd), (.int (27 : Int32)), (.ref b1), (.ref b1)])) _
    refine XS.bipush Xo166.here hx rfl (hb hby at_268) ?_
    show Steps p.tables e below (T163.setTop (mkF m 270 #[.val (.int sd), .val (.int xs), .val (.int ys), .val (.int ws0), .val (.int hs), .val (.long pk), .second, .val (.int sd), .unset, .unset, .unset, .unset, .unset, .unset, .unset, .unset, .unset, .unset, .unset, .unset, .unset] [(.int (27 : Int32)), (.int sd), (.int (27 : Int32)), (.ref b1), (.ref b1)])) _
    refine XS.iadd Xo166.here hx rfl (hb hby at_270) rfl ?_
    show Steps p.tables e below (T163.setTop (mkF m 271 #[.val (.int sd), .val (.int xs), .val (.int ys), .val (.int ws0), .val (.int hs), .val (.long pk), .second, .val (.int sd), .unset, .unset, .unset, .unset, .unset, .unset, .unset, .unset, .unset, .unset, .unset, .unset, .unset] [(.int (sd + (27 : Int32))), (.int (27 : Int32)), (.ref b1), (.ref b1)])) _
    refine XT.i2b Xo166.here hx rfl (hb hby at_271) rfl ?_
    show Steps p.tables e below (T163.setTop (mkF m 272 #[.val (.int sd), .val (.int xs), .val (.int ys), .val (.int ws0), .val (.int hs), .val (.long pk), .second, .val (.int sd), .unset, .unset, .unset, .unset, .unset, .unset, .unset, .unset, .unset, .unset, .unset, .unset, .unset] [(.int ((sd + (27 : Int32)).toInt8.toInt32)), (.int (27 : Int32)), (.ref b1), (.ref b1)])) _
    exact k
  obtain ⟨cc169, Ar169, q1_169, Sz169, q3_169, Hs169, G169⟩ := id V163
  have hin169 : ¬ ((27 : Int32) < 0 ∨ cc169.slots.size ≤ ((27 : Int32) : Int32).toNatClampNeg) := inb_of Sz169 ⟨(by decide), (by decide)⟩
  obtain ⟨T169, h169, X169, e169, W169, st169⟩ := stB Xo166 hx hZ e163 Ar169 hin169 (g := (mkF m 272 #[.val (.int sd), .val (.int xs), .val (.int ys), .val (.int ws0), .val (.int hs), .val (.long pk), .second, .val (.int sd), .unset, .unset, .unset, .unset, .unset, .unset, .unset, .unset, .unset, .unset, .unset, .unset, .unset] [(.int ((sd + (27 : Int32)).toInt8.toInt32)), (.int (27 : Int32)), (.ref b1), (.ref b1)])) rfl rfl (hb hby at_272)
  have N169 := Fr.snoc X169 No166 g_b1
  have V169 : Arv Z h169 b1 cA3 .byte (48 : Int32) [(.int (nar .byte (sd.toInt8.toInt32))), (.int (nar .byte ((sd + (1 : Int32)).toInt8.toInt32))), (.int (nar .byte ((sd + (2 : Int32)).toInt8.toInt32))), (.int (nar .byte ((sd + (3 : Int32)).toInt8.toInt32))), (.int (nar .byte ((sd + (4 : Int32)).toInt8.toInt32))), (.int (nar .byte ((sd + (5 : Int32)).toInt8.toInt32))), (.int (nar .byte ((sd + (6 : Int32)).toInt8.toInt32))), (.int (nar .byte ((sd + (7 : Int32)).toInt8.toInt32))), (.int (nar .byte ((sd + (8 : Int32)).toInt8.toInt32))), (.int (nar .byte ((sd + (9 : Int32)).toInt8.toInt32))), (.int (nar .byte ((sd + (10 : Int32)).toInt8.toInt32))), (.int (nar .byte ((sd + (11 : Int32)).toInt8.toInt32))), (.int (nar .byte ((sd + (12 : Int32)).toInt8.toInt32))), (.int (nar .byte ((sd + (13 : Int32)).toInt8.toInt32))), (.int (nar .byte ((sd + (14 : Int32)).toInt8.toInt32))), (.int (nar .byte ((sd + (15 : Int32)).toInt8.toInt32))), (.int (nar .byte ((sd + (16 : Int32)).toInt8.toInt32))), (.int (nar .byte ((sd + (17 : Int32)).toInt8.toInt32))), (.int (nar .byte ((sd + (18 : Int32)).toInt8.toInt32))), (.int (nar .byte ((sd + (19 : Int32)).toInt8.toInt32))), (.int (nar .byte ((sd + (20 : Int32)).toInt8.toInt32))), (.int (nar .byte ((sd + (21 : Int32)).toInt8.toInt32))), (.int (nar .byte ((sd + (22 : Int32)).toInt8.toInt32))), (.int (nar .byte ((sd + (23 : Int32)).toInt8.toInt32))), (.int (nar .byte ((sd + (24 : Int32)).toInt8.toInt32))), (.int (nar .byte ((sd + (25 : Int32)).toInt8.toInt32))), (.int (nar .byte ((sd + (26 : Int32)).toInt8.toInt32))), (.int (nar .byte ((sd + (27 : Int32)).toInt8.toInt32))), (.int (0 : Int32)), (.int (0 : Int32)), (.int (0 : Int32)), (.int (0 : Int32)), (.int (0 : Int32)), (.int (0 : Int32)), (.int (0 : Int32)), (.int (0 : Int32)), (.int (0 : Int32)), (.int (0 : Int32)), (.int (0 : Int32)), (.int (0 : Int32)), (.int (0 : Int32)), (.int (0 : Int32)), (.int (0 : Int32)), (.int (0 : Int32)), (.int (0 : Int32)), (.int (0 : Int32)), (.int (0 : Int32)), (.int (0 : Int32))] (.int (0 : Int32)) := Arv.set Ar169 q1_169 Sz169 q3_169 Hs169 G169 (fits_nar_byte _) W169 27 (by decide) (show 27 < 48 by decide)
  have pre171 : ∀ t, Steps p.tables e below (T169.setTop (mkF m 273 #[.val (.int sd), .val (.int xs), .val (.int ys), .val (.int ws0), .val (.int hs), .val (.long pk), .second, .val (.int sd), .unset, .unset, .unset, .unset, .unset, .unset, .unset, .unset, .unset, .unset, .unset, .unset, .unset] [(.ref b1)])) t → Steps p.tables e below (s₁.setTop (entryFrame m #[(.int sd), (.int xs), (.int ys), (.int ws0), (.int hs), (.long pk)] maxLocals)) t := fun t k => pre168 t (st169 t k)
  obtain ⟨Lo172, Xo172, No172⟩ : ∃ L, Stand p l e room_1 s m #[(.int sd), (.int xs), (.int ys), (.int ws0), (.int hs), (.long pk)] below meth c T169 L 1 48 ∧ Fr n0 L := ⟨_, X169, N169⟩
  have E173_0 : Exa Z h169 b1 "[B" := (E167_0.wr W169)
  have Z173 : n0 ≤ h169.size := (Nat.le_trans Z167 (Nat.le_of_eq W169.size.symm))
  have pre174 : ∀ t, Steps p.tables e below (T169.setTop (mkF m 282 #[.val (.int sd), .val (.int xs), .val (.int ys), .val (.int ws0), .val (.int hs), .val (.long pk), .second, .val (.int sd), .unset, .unset, .unset, .unset, .unset, .unset, .unset, .unset, .unset, .unset, .unset, .unset, .unset] [(.int ((sd + (28 : Int32)).toInt8.toInt32)), (.int (28 : Int32)), (.ref b1), (.ref b1)])) t → Steps p.tables e below (s₁.setTop (entryFrame m #[(.int sd), (.int xs), (.int ys), (.int ws0), (.int hs), (.long pk)] maxLocals)) t := by
    intro t k
    refine pre171 t ?_
    refine XS.dup Xo172.here hx rfl (hb hby at_273) rfl rfl ?_
    show Steps p.tables e below (T169.setTop (mkF m 274 #[.val (.int sd), .val (.int xs), .val (.int ys), .val (.int ws0), .val (.int hs), .val (.long pk), .second, .val (.int sd), .unset, .unset, .unset, .unset, .unset, .unset, .unset, .unset, .unset, .unset, .unset, .unset, .unset] [(.ref b1), (.ref b1)])) _
    refine XS.bipush Xo172.here hx rfl (hb hby at_274) ?_
    show Steps p.tables e below (T169.setTop (mkF m 276 #[.val (.int sd), .val (.int xs), .val (.int ys), .val (.int ws0), .val (.int hs), .val (.long pk), .second, .val (.int sd), .unset, .unset, .unset, .unset, .unset, .unset, .unset, .unset, .unset, .unset, .unset, .unset, .unset] [(.int (28 : Int32)), (.ref b1), (.ref b1)])) _
    refine XS.iload Xo172.here hx rfl (hb hby at_276) rfl ?_
    show Steps p.tables e below (T169.setTop (mkF m 278 #[.val (.int sd), .val (.int xs), .val (.int ys), .val (.int ws0), .val (.int hs), .val (.long pk), .second, .val (.int sd), .unset, .unset, .unset, .unset, .unset, .unset, .unset, .unset, .unset, .unset, .unset, .unset, .unset] [(.int sd), (.int (28 : Int32)), (.ref b1), (.ref b1)])) _
    refine XS.bipush Xo172.here hx rfl (hb hby at_278) ?_
    show Steps p.tables e below (T169.setTop (mkF m 280 #[.val (.int sd), .val (.int xs), .val (.int ys), .val (.int ws0), .val (.int hs), .val (.long pk), .second, .val (.int sd), .unset, .unset, .unset, .unset, .unset, .unset, .unset, .unset, .unset, .unset, .unset, .unset, .unset] [(.int (28 : Int32)), (.int sd), (.int (28 : Int32)), (.ref b1), (.ref b1)])) _
    refine XS.iadd Xo172.here hx rfl (hb hby at_280) rfl ?_
    show Steps p.tables e below (T169.setTop (mkF m 281 #[.val (.int sd), .val (.int xs), .val (.int ys), .val (.int ws0), .val (.int hs), .val (.long pk), .second, .val (.int sd), .unset, .unset, .unset, .unset, .unset, .unset, .unset, .unset, .unset, .unset, .unset, .unset, .unset] [(.int (sd + (28 : Int32))), (.int (28 : Int32)), (.ref b1), (.ref b1)])) _
    refine XT.i2b Xo172.here hx rfl (hb hby at_281) rfl ?_
    show Steps p.tables e below (T169.setTop (mkF m 282 #[.val (.int sd), .val (.int xs), .val (.int ys), .val (.int ws0), .val (.int hs), .val (.long pk), .second, .val (.int sd), .unset, .unset, .unset, .unset, .unset, .unset, .unset, .unset, .unset, .unset, .unset, .unset, .unset] [(.int ((sd + (28 : Int32)).toInt8.toInt32)), (.int (28 : Int32)), (.ref b1), (.ref b1)])) _
    exact k
  obtain ⟨cc175, Ar175, q1_175, Sz175, q3_175, Hs175, G175⟩ := id V169
  have hin175 : ¬ ((28 : Int32) < 0 ∨ cc175.slots.size ≤ ((28 : Int32) : Int32).toNatClampNeg) := inb_of Sz175 ⟨(by decide), (by decide)⟩
  obtain ⟨T175, h175, X175, e175, W175, st175⟩ := stB Xo172 hx hZ e169 Ar175 hin175 (g := (mkF m 282 #[.val (.int sd), .val (.int xs), .val (.int ys), .val (.int ws0), .val (.int hs), .val (.long pk), .second, .val (.int sd), .unset, .unset, .unset, .unset, .unset, .unset, .unset, .unset, .unset, .unset, .unset, .unset, .unset] [(.int ((sd + (28 : Int32)).toInt8.toInt32)), (.int (28 : Int32)), (.ref b1), (.ref b1)])) rfl rfl (hb hby at_282)
  have N175 := Fr.snoc X175 No172 g_b1
  have V175 : Arv Z h175 b1 cA3 .byte (48 : Int32) [(.int (nar .byte (sd.toInt8.toInt32))), (.int (nar .byte ((sd + (1 : Int32)).toInt8.toInt32))), (.int (nar .byte ((sd + (2 : Int32)).toInt8.toInt32))), (.int (nar .byte ((sd + (3 : Int32)).toInt8.toInt32))), (.int (nar .byte ((sd + (4 : Int32)).toInt8.toInt32))), (.int (nar .byte ((sd + (5 : Int32)).toInt8.toInt32))), (.int (nar .byte ((sd + (6 : Int32)).toInt8.toInt32))), (.int (nar .byte ((sd + (7 : Int32)).toInt8.toInt32))), (.int (nar .byte ((sd + (8 : Int32)).toInt8.toInt32))), (.int (nar .byte ((sd + (9 : Int32)).toInt8.toInt32))), (.int (nar .byte ((sd + (10 : Int32)).toInt8.toInt32))), (.int (nar .byte ((sd + (11 : Int32)).toInt8.toInt32))), (.int (nar .byte ((sd + (12 : Int32)).toInt8.toInt32))), (.int (nar .byte ((sd + (13 : Int32)).toInt8.toInt32))), (.int (nar .byte ((sd + (14 : Int32)).toInt8.toInt32))), (.int (nar .byte ((sd + (15 : Int32)).toInt8.toInt32))), (.int (nar .byte ((sd + (16 : Int32)).toInt8.toInt32))), (.int (nar .byte ((sd + (17 : Int32)).toInt8.toInt32))), (.int (nar .byte ((sd + (18 : Int32)).toInt8.toInt32))), (.int (nar .byte ((sd + (19 : Int32)).toInt8.toInt32))), (.int (nar .byte ((sd + (20 : Int32)).toInt8.toInt32))), (.int (nar .byte ((sd + (21 : Int32)).toInt8.toInt32))), (.int (nar .byte ((sd + (22 : Int32)).toInt8.toInt32))), (.int (nar .byte ((sd + (23 : Int32)).toInt8.toInt32))), (.int (nar .byte ((sd + (24 : Int32)).toInt8.toInt32))), (.int (nar .byte ((sd + (25 : Int32)).toInt8.toInt32))), (.int (nar .byte ((sd + (26 : Int32)).toInt8.toInt32))), (.int (nar .byte ((sd + (27 : Int32)).toInt8.toInt32))), (.int (nar .byte ((sd + (28 : Int32)).toInt8.toInt32))), (.int (0 : Int32)), (.int (0 : Int32)), (.int (0 : Int32)), (.int (0 : Int32)), (.int (0 : Int32)), (.int (0 : Int32)), (.int (0 : Int32)), (.int (0 : Int32)), (.int (0 : Int32)), (.int (0 : Int32)), (.int (0 : Int32)), (.int (0 : Int32)), (.int (0 : Int32)), (.int (0 : Int32)), (.int (0 : Int32)), (.int (0 : Int32)), (.int (0 : Int32)), (.int (0 : Int32)), (.int (0 : Int32))] (.int (0 : Int32)) := Arv.set Ar175 q1_175 Sz175 q3_175 Hs175 G175 (fits_nar_byte _) W175 28 (by decide) (show 28 < 48 by decide)
  have pre177 : ∀ t, Steps p.tables e below (T175.setTop (mkF m 283 #[.val (.int sd), .val (.int xs), .val (.int ys), .val (.int ws0), .val (.int hs), .val (.long pk), .second, .val (.int sd), .unset, .unset, .unset, .unset, .unset, .unset, .unset, .unset, .unset, .unset, .unset, .unset, .unset] [(.ref b1)])) t → Steps p.tables e below (s₁.setTop (entryFrame m #[(.int sd), (.int xs), (.int ys), (.int ws0), (.int hs), (.long pk)] maxLocals)) t := fun t k => pre174 t (st175 t k)
  obtain ⟨Lo178, Xo178, No178⟩ : ∃ L, Stand p l e room_1 s m #[(.int sd), (.int xs), (.int ys), (.int ws0), (.int hs), (.long pk)] below meth c T175 L 1 48 ∧ Fr n0 L := ⟨_, X175, N175⟩
  have E179_0 : Exa Z h175 b1 "[B" := (E173_0.wr W175)
  have Z179 : n0 ≤ h175.size := (Nat.le_trans Z173 (Nat.le_of_eq W175.size.symm))
  have pre180 : ∀ t, Steps p.tables e below (T175.setTop (mkF m 292 #[.val (.int sd), .val (.int xs), .val (.int ys), .val (.int ws0), .val (.int hs), .val (.long pk), .second, .val (.int sd), .unset, .unset, .unset, .unset, .unset, .unset, .unset, .unset, .unset, .unset, .unset, .unset, .unset] [(.int ((sd + (29 : Int32)).toInt8.toInt32)), (.int (29 : Int32)), (.ref b1), (.ref b1)])) t → Steps p.tables e below (s₁.setTop (entryFrame m #[(.int sd), (.int xs), (.int ys), (.int ws0), (.int hs), (.long pk)] maxLocals)) t := by
    intro t k
    refine pre177 t ?_
    refine XS.dup Xo178.here hx rfl (hb hby at_283) rfl rfl ?_
    show Steps p.tables e below (T175.setTop (mkF m 284 #[.val (.int sd), .val (.int xs), .val (.int ys), .val (.int ws0), .val (.int hs), .val (.long pk), .second, .val (.int sd), .unset, .unset, .unset, .unset, .unset, .unset, .unset, .unset, .unset, .unset, .unset, .unset, .unset] [(.ref b1), (.ref b1)])) _
    refine XS.bipush Xo178.here hx rfl (hb hby at_284) ?_
    show Steps p.tables e below (T175.setTop (mkF m 286 #[.val (.int sd), .val (.int xs), .val (.int ys), .val (.int ws0), .val (.int hs), .val (.long pk), .second, .val (.int sd), .unset, .unset, .unset, .unset, .unset, .unset, .unset, .unset, .unset, .unset, .unset, .unset, .unset] [(.int (29 : Int32)), (.ref b1), (.ref b1)])) _
    refine XS.iload Xo178.here hx rfl (hb hby at_286) rfl ?_
    show Steps p.tables e below (T175.setTop (mkF m 288 #[.val (.int sd), .val (.int xs), .val (.int ys), .val (.int ws0), .val (.int hs), .val (.long pk), .second, .val (.int sd), .unset, .unset, .unset, .unset, .unset, .unset, .unset, .unset, .unset, .unset, .unset, .unset, .unset] [(.int sd), (.int (29 : Int32)), (.ref b1), (.ref b1)])) _
    refine XS.bipush Xo178.here hx rfl (hb hby at_288) ?_
    show Steps p.tables e below (T175.setTop (mkF m 290 #[.val (.int sd), .val (.int xs), .val (.int ys), .val (.int ws0), .val (.int hs), .val (.long pk), .second, .val (.int sd), .unset, .unset, .unset, .unset, .unset, .unset, .unset, .unset, .unset, .unset, .unset, .unset, .unset] [(.int (29 : Int32)), (.int sd), (.int (29 : Int32)), (.ref b1), (.ref b1)])) _
    refine XS.iadd Xo178.here hx rfl (hb hby at_290) rfl ?_
    show Steps p.tables e below (T175.setTop (mkF m 291 #[.val (.int sd), .val (.int xs), .val (.int ys), .val (.int ws0), .val (.int hs), .val (.long pk), .second, .val (.int sd), .unset, .unset, .unset, .unset, .unset, .unset, .unset, .unset, .unset, .unset, .unset, .unset, .unset] [(.int (sd + (29 : Int32))), (.int (29 : Int32)), (.ref b1), (.ref b1)])) _
    refine XT.i2b Xo178.here hx rfl (hb hby at_291) rfl ?_
    show Steps p.tables e below (T175.setTop (mkF m 292 #[.val (.int sd), .val (.int xs), .val (.int ys), .val (.int ws0), .val (.int hs), .val (.long pk), .second, .val (.int sd), .unset, .unset, .unset, .unset, .unset, .unset, .unset, .unset, .unset, .unset, .unset, .unset, .unset] [(.int ((sd + (29 : Int32)).toInt8.toInt32)), (.int (29 : Int32)), (.ref b1), (.ref b1)])) _
    exact k
  obtain ⟨cc181, Ar181, q1_181, Sz181, q3_181, Hs181, G181⟩ := id V175
  have hin181 : ¬ ((29 : Int32) < 0 ∨ cc181.slots.size ≤ ((29 : Int32) : Int32).toNatClampNeg) := inb_of Sz181 ⟨(by decide), (by decide)⟩
  obtain ⟨T181, h181, X181, e181, W181, st181⟩ := stB Xo178 hx hZ e175 Ar181 hin181 (g := (mkF m 292 #[.val (.int sd), .val (.int xs), .val (.int ys), .val (.int ws0), .val (.int hs), .val (.long pk), .second, .val (.int sd), .unset, .unset, .unset, .unset, .unset, .unset, .unset, .unset, .unset, .unset, .unset, .unset, .unset] [(.int ((sd + (29 : Int32)).toInt8.toInt32)), (.int (29 : Int32)), (.ref b1), (.ref b1)])) rfl rfl (hb hby at_292)
  have N181 := Fr.snoc X181 No178 g_b1
  have V181 : Arv Z h181 b1 cA3 .byte (48 : Int32) [(.int (nar .byte (sd.toInt8.toInt32))), (.int (nar .byte ((sd + (1 : Int32)).toInt8.toInt32))), (.int (nar .byte ((sd + (2 : Int32)).toInt8.toInt32))), (.int (nar .byte ((sd + (3 : Int32)).toInt8.toInt32))), (.int (nar .byte ((sd + (4 : Int32)).toInt8.toInt32))), (.int (nar .byte ((sd + (5 : Int32)).toInt8.toInt32))), (.int (nar .byte ((sd + (6 : Int32)).toInt8.toInt32))), (.int (nar .byte ((sd + (7 : Int32)).toInt8.toInt32))), (.int (nar .byte ((sd + (8 : Int32)).toInt8.toInt32))), (.int (nar .byte ((sd + (9 : Int32)).toInt8.toInt32))), (.int (nar .byte ((sd + (10 : Int32)).toInt8.toInt32))), (.int (nar .byte ((sd + (11 : Int32)).toInt8.toInt32))), (.int (nar .byte ((sd + (12 : Int32)).toInt8.toInt32))), (.int (nar .byte ((sd + (13 : Int32)).toInt8.toInt32))), (.int (nar .byte ((sd + (14 : Int32)).toInt8.toInt32))), (.int (nar .byte ((sd + (15 : Int32)).toInt8.toInt32))), (.int (nar .byte ((sd + (16 : Int32)).toInt8.toInt32))), (.int (nar .byte ((sd + (17 : Int32)).toInt8.toInt32))), (.int (nar .byte ((sd + (18 : Int32)).toInt8.toInt32))), (.int (nar .byte ((sd + (19 : Int32)).toInt8.toInt32))), (.int (nar .byte ((sd + (20 : Int32)).toInt8.toInt32))), (.int (nar .byte ((sd + (21 : Int32)).toInt8.toInt32))), (.int (nar .byte ((sd + (22 : Int32)).toInt8.toInt32))), (.int (nar .byte ((sd + (23 : Int32)).toInt8.toInt32))), (.int (nar .byte ((sd + (24 : Int32)).toInt8.toInt32))), (.int (nar .byte ((sd + (25 : Int32)).toInt8.toInt32))), (.int (nar .byte ((sd + (26 : Int32)).toInt8.toInt32))), (.int (nar .byte ((sd + (27 : Int32)).toInt8.toInt32))), (.int (nar .byte ((sd + (28 : Int32)).toInt8.toInt32))), (.int (nar .byte ((sd + (29 : Int32)).toInt8.toInt32))), (.int (0 : Int32)), (.int (0 : Int32)), (.int (0 : Int32)), (.int (0 : Int32)), (.int (0 : Int32)), (.int (0 : Int32)), (.int (0 : Int32)), (.int (0 : Int32)), (.int (0 : Int32)), (.int (0 : Int32)), (.int (0 : Int32)), (.int (0 : Int32)), (.int (0 : Int32)), (.int (0 : Int32)), (.int (0 : Int32)), (.int (0 : Int32)), (.int (0 : Int32)), (.int (0 : Int32))] (.int (0 : Int32)) := Arv.set Ar181 q1_181 Sz181 q3_181 Hs181 G181 (fits_nar_byte _) W181 29 (by decide) (show 29 < 48 by decide)
  have pre183 : ∀ t, Steps p.tables e below (T181.setTop (mkF m 293 #[.val (.int sd), .val (.int xs), .val (.int ys), .val (.int ws0), .val (.int hs), .val (.long pk), .second, .val (.int sd), .unset, .unset, .unset, .unset, .unset, .unset, .unset, .unset, .unset, .unset, .unset, .unset, .unset] [(.ref b1)])) t → Steps p.tables e below (s₁.setTop (entryFrame m #[(.int sd), (.int xs), (.int ys), (.int ws0), (.int hs), (.long pk)] maxLocals)) t := fun t k => pre180 t (st181 t k)
  obtain ⟨Lo184, Xo184, No184⟩ : ∃ L, Stand p l e room_1 s m #[(.int sd), (.int xs), (.int ys), (.int ws0), (.int hs), (.long pk)] below meth c T181 L 1 48 ∧ Fr n0 L := ⟨_, X181, N181⟩
  have E185_0 : Exa Z h181 b1 "[B" := (E179_0.wr W181)
  have Z185 : n0 ≤ h181.size := (Nat.le_trans Z179 (Nat.le_of_eq W181.size.symm))
  have pre186 : ∀ t, Steps p.tables e below (T181.setTop (mkF m 302 #[.val (.int sd), .val (.int xs), .val (.int ys), .val (.int ws0), .val (.int hs), .val (.long pk), .second, .val (.int sd), .unset, .unset, .unset, .unset, .unset, .unset, .unset, .unset, .unset, .unset, .unset, .unset, .unset] [(.int ((sd + (30 : Int32)).toInt8.toInt32)), (.int (30 : Int32)), (.ref b1), (.ref b1)])) t → Steps p.tables e below (s₁.setTop (entryFrame m #[(.int sd), (.int xs), (.int ys), (.int ws0), (.int hs), (.long pk)] maxLocals)) t := by
    intro t k
    refine pre183 t ?_
    refine XS.dup Xo184.here hx rfl (hb hby at_293) rfl rfl ?_
    show Steps p.tables e below (T181.setTop (mkF m 294 #[.val (.int sd), .val (.int xs), .val (.int ys), .val (.int ws0), .val (.int hs), .val (.long pk), .second, .val (.int sd), .unset, .unset, .unset, .unset, .unset, .unset, .unset, .unset, .unset, .unset, .unset, .unset, .unset] [(.ref b1), (.ref b1)])) _
    refine XS.bipush Xo184.here hx rfl (hb hby at_294) ?_
    show Steps p.tables e below (T181.setTop (mkF m 296 #[.val (.int sd), .val (.int xs), .val (.int ys), .val (.int ws0), .val (.int hs), .val (.long pk), .second, .val (.int sd), .unset, .unset, .unset, .unset, .unset, .unset, .unset, .unset, .unset, .unset, .unset, .unset, .unset] [(.int (30 : Int32)), (.ref b1), (.ref b1)])) _
    refine XS.iload Xo184.here hx rfl (hb hby at_296) rfl ?_
    show Steps p.tables e below (T181.setTop (mkF m 298 #[.val (.int sd), .val (.int xs), .val (.int ys), .val (.int ws0), .val (.int hs), .val (.long pk), .second, .val (.int sd), .unset, .unset, .unset, .unset, .unset, .unset, .unset, .unset, .unset, .unset, .unset, .unset, .unset] [(.int sd), (.int (30 : Int32)), (.ref b1), (.ref b1)])) _
    refine XS.bipush Xo184.here hx rfl (hb hby at_298) ?_
    show Steps p.tables e below (T181.setTop (mkF m 300 #[.val (.int sd), .val (.int xs), .val (.int ys), .val (.int ws0), .val (.int hs), .val (.long pk), .second, .val (.int sd), .unset, .unset, .unset, .unset, .unset, .unset, .unset, .unset, .unset, .unset, .unset, .unset, .unset] [(.int (30 : Int32)), (.int sd), (.int (30 : Int32)), (.ref b1), (.ref b1)])) _
    refine XS.iadd Xo184.here hx rfl (hb hby at_300) rfl ?_
    show Steps p.tables e below (T181.setTop (mkF m 301 #[.val (.int sd), .val (.int xs), .val (.int ys), .val (.int ws0), .val (.int hs), .val (.long pk), .second, .val (.int sd), .unset, .unset, .unset, .unset, .unset, .unset, .unset, .unset, .unset, .unset, .unset, .unset, .unset] [(.int (sd + (30 : Int32))), (.int (30 : Int32)), (.ref b1), (.ref b1)])) _
    refine XT.i2b Xo184.here hx rfl (hb hby at_301) rfl ?_
    show Steps p.tables e below (T181.setTop (mkF m 302 #[.val (.int sd), .val (.int xs), .val (.int ys), .val (.int ws0), .val (.int hs), .val (.long pk), .second, .val (.int sd), .unset, .unset, .unset, .unset, .unset, .unset, .unset, .unset, .unset, .unset, .unset, .unset, .unset] [(.int ((sd + (30 : Int32)).toInt8.toInt32)), (.int (30 : Int32)), (.ref b1), (.ref b1)])) _
    exact k
  obtain ⟨cc187, Ar187, q1_187, Sz187, q3_187, Hs187, G187⟩ := id V181
  have hin187 : ¬ ((30 : Int32) < 0 ∨ cc187.slots.size ≤ ((30 : Int32) : Int32).toNatClampNeg) := inb_of Sz187 ⟨(by decide), (by decide)⟩
  obtain ⟨T187, h187, X187, e187, W187, st187⟩ := stB Xo184 hx hZ e181 Ar187 hin187 (g := (mkF m 302 #[.val (.int sd), .val (.int xs), .val (.int ys), .val (.int ws0), .val (.int hs), .val (.long pk), .second, .val (.int sd), .unset, .unset, .unset, .unset, .unset, .unset, .unset, .unset, .unset, .unset, .unset, .unset, .unset] [(.int ((sd + (30 : Int32)).toInt8.toInt32)), (.int (30 : Int32)), (.ref b1), (.ref b1)])) rfl rfl (hb hby at_302)
  have N187 := Fr.snoc X187 No184 g_b1
  have V187 : Arv Z h187 b1 cA3 .byte (48 : Int32) [(.int (nar .byte (sd.toInt8.toInt32))), (.int (nar .byte ((sd + (1 : Int32)).toInt8.toInt32))), (.int (nar .byte ((sd + (2 : Int32)).toInt8.toInt32))), (.int (nar .byte ((sd + (3 : Int32)).toInt8.toInt32))), (.int (nar .byte ((sd + (4 : Int32)).toInt8.toInt32))), (.int (nar .byte ((sd + (5 : Int32)).toInt8.toInt32))), (.int (nar .byte ((sd + (6 : Int32)).toInt8.toInt32))), (.int (nar .byte ((sd + (7 : Int32)).toInt8.toInt32))), (.int (nar .byte ((sd + (8 : Int32)).toInt8.toInt32))), (.int (nar .byte ((sd + (9 : Int32)).toInt8.toInt32))), (.int (nar .byte ((sd + (10 : Int32)).toInt8.toInt32))), (.int (nar .byte ((sd + (11 : Int32)).toInt8.toInt32))), (.int (nar .byte ((sd + (12 : Int32)).toInt8.toInt32))), (.int (nar .byte ((sd + (13 : Int32)).toInt8.toInt32))), (.int (nar .byte ((sd + (14 : Int32)).toInt8.toInt32))), (.int (nar .byte ((sd + (15 : Int32)).toInt8.toInt32))), (.int (nar .byte ((sd + (16 : Int32)).toInt8.toInt32))), (.int (nar .byte ((sd + (17 : Int32)).toInt8.toInt32))), (.int (nar .byte ((sd + (18 : Int32)).toInt8.toInt32))), (.int (nar .byte ((sd + (19 : Int32)).toInt8.toInt32))), (.int (nar .byte ((sd + (20 : Int32)).toInt8.toInt32))), (.int (nar .byte ((sd + (21 : Int32)).toInt8.toInt32))), (.int (nar .byte ((sd + (22 : Int32)).toInt8.toInt32))), (.int (nar .byte ((sd + (23 : Int32)).toInt8.toInt32))), (.int (nar .byte ((sd + (24 : Int32)).toInt8.toInt32))), (.int (nar .byte ((sd + (25 : Int32)).toInt8.toInt32))), (.int (nar .byte ((sd + (26 : Int32)).toInt8.toInt32))), (.int (nar .byte ((sd + (27 : Int32)).toInt8.toInt32))), (.int (nar .byte ((sd + (28 : Int32)).toInt8.toInt32))), (.int (nar .byte ((sd + (29 : Int32)).toInt8.toInt32))), (.int (nar .byte ((sd + (30 : Int32)).toInt8.toInt32))), (.int (0 : Int32)), (.int (0 : Int32)), (.int (0 : Int32)), (.int (0 : Int32)), (.int (0 : Int32)), (.int (0 : Int32)), (.int (0 : Int32)), (.int (0 : Int32)), (.int (0 : Int32)), (.int (0 : Int32)), (.int (0 : Int32)), (.int (0 : Int32)), (.int (0 : Int32)), (.int (0 : Int32)), (.int (0 : Int32)), (.int (0 : Int32)), (.int (0 : Int32))] (.int (0 : Int32)) := Arv.set Ar187 q1_187 Sz187 q3_187 Hs187 G187 (fits_nar_byte _) W187 30 (by decide) (show 30 < 48 by decide)
  have pre189 : ∀ t, Steps p.tables e below (T187.setTop (mkF m 303 #[.val (.int sd), .val (.int xs), .val (.int ys), .val (.int ws0), .val (.int hs), .val (.long pk), .second, .val (.int sd), .unset, .unset, .unset, .unset, .unset, .unset, .unset, .unset, .unset, .unset, .unset, .unset, .unset] [(.ref b1)])) t → Steps p.tables e below (s₁.setTop (entryFrame m #[(.int sd), (.int xs), (.int ys), (.int ws0), (.int hs), (.long pk)] maxLocals)) t := fun t k => pre186 t (st187 t k)
  obtain ⟨Lo190, Xo190, No190⟩ : ∃ L, Stand p l e room_1 s m #[(.int sd), (.int xs), (.int ys), (.int ws0), (.int hs), (.long pk)] below meth c T187 L 1 48 ∧ Fr n0 L := ⟨_, X187, N187⟩
  have E191_0 : Exa Z h187 b1 "[B" := (E185_0.wr W187)
  have Z191 : n0 ≤ h187.size := (Nat.le_trans Z185 (Nat.le_of_eq W187.size.symm))
  have pre192 : ∀ t, Steps p.tables e below (T187.setTop (mkF m 312 #[.val (.int sd), .val (.int xs), .val (.int ys), .val (.int ws0), .val (.int hs), .val (.long pk), .second, .val (.int sd), .unset, .unset, .unset, .unset, .unset, .unset, .unset, .unset, .unset, .unset, .unset, .unset, .unset] [(.int ((sd + (31 : Int32)).toInt8.toInt32)), (.int (31 : Int32)), (.ref b1), (.ref b1)])) t → Steps p.tables e below (s₁.setTop (entryFrame m #[(.int sd), (.int xs), (.int ys), (.int ws0), (.int hs), (.long pk)] maxLocals)) t := by
    intro t k
    refine pre189 t ?_
    refine XS.dup Xo190.here hx rfl (hb hby at_303) rfl rfl ?_
    show Steps p.tables e below (T187.setTop (mkF m 304 #[.val (.int sd), .val (.int xs), .val (.int ys), .val (.int ws0), .val (.int hs), .val (.long pk), .second, .val (.int sd), .unset, .unset, .unset, .unset, .unset, .unset, .unset, .unset, .unset, .unset, .unset, .unset, .unset] [(.ref b1), (.ref b1)])) _
    refine XS.bipush Xo190.here hx rfl (hb hby at_304) ?_
    show Steps p.tables e below (T187.setTop (mkF m 306 #[.val (.int sd), .val (.int xs), .val (.int ys), .val (.int ws0), .val (.int hs), .val (.long pk), .second, .val (.int sd), .unset, .unset, .unset, .unset, .unset, .unset, .unset, .unset, .unset, .unset, .unset, .unset, .unset] [(.int (31 : Int32)), (.ref b1), (.ref b1)])) _
    refine XS.iload Xo190.here hx rfl (hb hby at_306) rfl ?_
    show Steps p.tables e below (T187.setTop (mkF m 308 #[.val (.int sd), .val (.int xs), .val (.int ys), .val (.int ws0), .val (.int hs), .val (.long pk), .second, .val (.int sd), .unset, .unset, .unset, .unset, .unset, .unset, .unset, .unset, .unset, .unset, .unset, .unset, .unset] [(.int sd), (.int (31 : Int32)), (.ref b1), (.ref b1)])) _
    refine XS.bipush Xo190.here hx rfl (hb hby at_308) ?_
    show Steps p.tables e below (T187.setTop (mkF m 310 #[.val (.int sd), .val (.int xs), .val (.int ys), .val (.int ws0), .val (.int hs), .val (.long pk), .second, .val (.int sd), .unset, .unset, .unset, .unset, .unset, .unset, .unset, .unset, .unset, .unset, .unset, .unset, .unset] [(.int (31 : Int32)), (.int sd), (.int (31 : Int32)), (.ref b1), (.ref b1)])) _
    refine XS.iadd Xo190.here hx rfl (hb hby at_310) rfl ?_
    show Steps p.tables e below (T187.setTop (mkF m 311 #[.val (.int sd), .val (.int xs), .val (.int ys), .val (.int ws0), .val (.int hs), .val (.long pk), .second, .val (.int sd), .unset, .unset, .unset, .unset, .unset, .unset, .unset, .unset, .unset, .unset, .unset, .unset, .unset] [(.int (sd + (31 : Int32))), (.int (31 : Int32)), (.ref b1), (.ref b1)])) _
    refine XT.i2b Xo190.here hx rfl (hb hby at_311) rfl ?_
    show Steps p.tables e below (T187.setTop (mkF m 312 #[.val (.int sd), .val (.int xs), .val (.int ys), .val (.int ws0), .val (.int hs), .val (.long pk), .second, .val (.int sd), .unset, .unset, .unset, .unset, .unset, .unset, .unset, .unset, .unset, .unset, .unset, .unset, .unset] [(.int ((sd + (31 : Int32)).toInt8.toInt32)), (.int (31 : Int32)), (.ref b1), (.ref b1)])) _
    exact k
  obtain ⟨cc193, Ar193, q1_193, Sz193, q3_193, Hs193, G193⟩ := id V187
  have hin193 : ¬ ((31 : Int32) < 0 ∨ cc193.slots.size ≤ ((31 : Int32) : Int32).toNatClampNeg) := inb_of Sz193 ⟨(by decide), (by decide)⟩
  obtain ⟨T193, h193, X193, e193, W193, st193⟩ := stB Xo190 hx hZ e187 Ar193 hin193 (g := (mkF m 312 #[.val (.int sd), .val (.int xs), .val (.int ys), .val (.int ws0), .val (.int hs), .val (.long pk), .second, .val (.int sd), .unset, .unset, .unset, .unset, .unset, .unset, .unset, .unset, .unset, .unset, .unset, .unset, .unset] [(.int ((sd + (31 : Int32)).toInt8.toInt32)), (.int (31 : Int32)), (.ref b1), (.ref b1)])) rfl rfl (hb hby at_312)
  have N193 := Fr.snoc X193 No190 g_b1
  have V193 : Arv Z h193 b1 cA3 .byte (48 : Int32) [(.int (nar .byte (sd.toInt8.toInt32))), (.int (nar .byte ((sd + (1 : Int32)).toInt8.toInt32))), (.int (nar .byte ((sd + (2 : Int32)).toInt8.toInt32))), (.int (nar .byte ((sd + (3 : Int32)).toInt8.toInt32))), (.int (nar .byte ((sd + (4 : Int32)).toInt8.toInt32))), (.int (nar .byte ((sd + (5 : Int32)).toInt8.toInt32))), (.int (nar .byte ((sd + (6 : Int32)).toInt8.toInt32))), (.int (nar .byte ((sd + (7 : Int32)).toInt8.toInt32))), (.int (nar .byte ((sd + (8 : Int32)).toInt8.toInt32))), (.int (nar .byte ((sd + (9 : Int32)).toInt8.toInt32))), (.int (nar .byte ((sd + (10 : Int32)).toInt8.toInt32))), (.int (nar .byte ((sd + (11 : Int32)).toInt8.toInt32))), (.int (nar .byte ((sd + (12 : Int32)).toInt8.toInt32))), (.int (nar .byte ((sd + (13 : Int32)).toInt8.toInt32))), (.int (nar .byte ((sd + (14 : Int32)).toInt8.toInt32))), (.int (nar .byte ((sd + (15 : Int32)).toInt8.toInt32))), (.int (nar .byte ((sd + (16 : Int32)).toInt8.toInt32))), (.int (nar .byte ((sd + (17 : Int32)).toInt8.toInt32))), (.int (nar .byte ((sd + (18 : Int32)).toInt8.toInt32))), (.int (nar .byte ((sd + (19 : Int32)).toInt8.toInt32))), (.int (nar .byte ((sd + (20 : Int32)).toInt8.toInt32))), (.int (nar .byte ((sd + (21 : Int32)).toInt8.toInt32))), (.int (nar .byte ((sd + (22 : Int32)).toInt8.toInt32))), (.int (nar .byte ((sd + (23 : Int32)).toInt8.toInt32))), (.int (nar .byte ((sd + (24 : Int32)).toInt8.toInt32))), (.int (nar .byte ((sd + (25 : Int32)).toInt8.toInt32))), (.int (nar .byte ((sd + (26 : Int32)).toInt8.toInt32))), (.int (nar .byte ((sd + (27 : Int32)).toInt8.toInt32))), (.int (nar .byte ((sd + (28 : Int32)).toInt8.toInt32))), (.int (nar .byte ((sd + (29 : Int32)).toInt8.toInt32))), (.int (nar .byte ((sd + (30 : Int32)).toInt8.toInt32))), (.int (nar .byte ((sd + (31 : Int32)).toInt8.toInt32))), (.int (0 : Int32)), (.int (0 : Int32)), (.int (0 : Int32)), (.int (0 : Int32)), (.int (0 : Int32)), (.int (0 : Int32)), (.int (0 : Int32)), (.int (0 : Int32)), (.int (0 : Int32)), (.int (0 : Int32)), (.int (0 : Int32)), (.int (0 : Int32)), (.int (0 : Int32)), (.int (0 : Int32)), (.int (0 : Int32)), (.int (0 : Int32))] (.int (0 : Int32)) := Arv.set Ar193 q1_193 Sz193 q3_193 Hs193 G193 (fits_nar_byte _) W193 31 (by decide) (show 31 < 48 by decide)
  have pre195 : ∀ t, Steps p.tables e below (T193.setTop (mkF m 313 #[.val (.int sd), .val (.int xs), .val (.int ys), .val (.int ws0), .val (.int hs), .val (.long pk), .second, .val (.int sd), .unset, .unset, .unset, .unset, .unset, .unset, .unset, .unset, .unset, .unset, .unset, .unset, .unset] [(.ref b1)])) t → Steps p.tables e below (s₁.setTop (entryFrame m #[(.int sd), (.int xs), (.int ys), (.int ws0), (.int hs), (.long pk)] maxLocals)) t := fun t k => pre192 t (st193 t k)
  obtain ⟨Lo196, Xo196, No196⟩ : ∃ L, Stand p l e room_1 s m #[(.int sd), (.int xs), (.int ys), (.int ws0), (.int hs), (.long pk)] below meth c T193 L 1 48 ∧ Fr n0 L := ⟨_, X193, N193⟩
  have E197_0 : Exa Z h193 b1 "[B" := (E191_0.wr W193)
  have Z197 : n0 ≤ h193.size := (Nat.le_trans Z191 (Nat.le_of_eq W193.size.symm))
  have pre198 : ∀ t, Steps p.tables e below (T193.setTop (mkF m 322 #[.val (.int sd), .val (.int xs), .val (.int ys), .val (.int ws0), .val (.int hs), .val (.long pk), .second, .val (.int sd), .unset, .unset, .unset, .unset, .unset, .unset, .unset, .unset, .unset, .unset, .unset, .unset, .unset] [(.int ((sd + (32 : Int32)).toInt8.toInt32)), (.int (32 : Int32)), (.ref b1), (.ref b1)])) t → Steps p.tables e below (s₁.setTop (entryFrame m #[(.int sd), (.int xs), (.int ys), (.int ws0), (.int hs), (.long pk)] maxLocals)) t := by
    intro t k
    refine pre195 t ?_
    refine XS.dup Xo196.here hx rfl (hb hby at_313) rfl rfl ?_
    show Steps p.tables e below (T193.setTop (mkF m 314 #[.val (.int sd), .val (.int xs), .val (.int ys), .val (.int ws0), .val (.int hs), .val (.long pk), .second, .val (.int sd), .unset, .unset, .unset, .unset, .unset, .unset, .unset, .unset, .unset, .unset, .unset, .unset, .unset] [(.ref b1), (.ref b1)])) _
    refine XS.bipush Xo196.here hx rfl (hb hby at_314) ?_
    show Steps p.tables e below (T193.setTop (mkF m 316 #[.val (.int sd), .val (.int xs), .val (.int ys), .val (.int ws0), .val (.int hs), .val (.long pk), .second, .val (.int sd), .unset, .unset, .unset, .unset, .unset, .unset, .unset, .unset, .unset, .unset, .unset, .unset, .unset] [(.int (32 : Int32)), (.ref b1), (.ref b1)])) _
    refine XS.iload Xo196.here hx rfl (hb hby at_316) rfl ?_
    show Steps p.tables e below (T193.setTop (mkF m 318 #[.val (.int sd), .val (.int xs), .val (.int ys), .val (.int ws0), .val (.int hs), .val (.long pk), .second, .val (.int sd), .unset, .unset, .unset, .unset, .unset, .unset, .unset, .unset, .unset, .unset, .unset, .unset, .unset] [(.int sd), (.int (32 : Int32)), (.ref b1), (.ref b1)])) _
    refine XS.bipush Xo196.here hx rfl (hb hby at_318) ?_
    show Steps p.tables e below (T193.setTop (mkF m 320 #[.val (.int sd), .val (.int xs), .val (.int ys), .val (.int ws0), .val (.int hs), .val (.long pk), .second, .val (.int sd), .unset, .unset, .unset, .unset, .unset, .unset, .unset, .unset, .unset, .unset, .unset, .unset, .unset] [(.int (32 : Int32)), (.int sd), (.int (32 : Int32)), (.ref b1), (.ref b1)])) _
    refine XS.iadd Xo196.here hx rfl (hb hby at_320) rfl ?_
    show Steps p.tables e below (T193.setTop (mkF m 321 #[.val (.int sd), .val (.int xs), .val (.int ys), .val (.int ws0), .val (.int hs), .val (.long pk), .second, .val (.int sd), .unset, .unset, .unset, .unset, .unset, .unset, .unset, .unset, .unset, .unset, .unset, .unset, .unset] [(.int (sd + (32 : Int32))), (.int (32 : Int32)), (.ref b1), (.ref b1)])) _
    refine XT.i2b Xo196.here hx rfl (hb hby at_321) rfl ?_
    show Steps p.tables e below (T193.setTop (mkF m 322 #[.val (.int sd), .val (.int xs), .val (.int ys), .val (.int ws0), .val (.int hs), .val (.long pk), .second, .val (.int sd), .unset, .unset, .unset, .unset, .unset, .unset, .unset, .unset, .unset, .unset, .unset, .unset, .unset] [(.int ((sd + (32 : Int32)).toInt8.toInt32)), (.int (32 : Int32)), (.ref b1), (.ref b1)])) _
    exact k
  obtain ⟨cc199, Ar199, q1_199, Sz199, q3_199, Hs199, G199⟩ := id V193
  have hin199 : ¬ ((32 : Int32) < 0 ∨ cc199.slots.size ≤ ((32 : Int32) : Int32).toNatClampNeg) := inb_of Sz199 ⟨(by decide), (by decide)⟩
  obtain ⟨T199, h199, X199, e199, W199, st199⟩ := stB Xo196 hx hZ e193 Ar199 hin199 (g := (mkF m 322 #[.val (.int sd), .val (.int xs), .val (.int ys), .val (.int ws0), .val (.int hs), .val (.long pk), .second, .val (.int sd), .unset, .unset, .unset, .unset, .unset, .unset, .unset, .unset, .unset, .unset, .unset, .unset, .unset] [(.int ((sd + (32 : Int32)).toInt8.toInt32)), (.int (32 : Int32)), (.ref b1), (.ref b1)])) rfl rfl (hb hby at_322)
  have N199 := Fr.snoc X199 No196 g_b1
  have V199 : Arv Z h199 b1 cA3 .byte (48 : Int32) [(.int (nar .byte (sd.toInt8.toInt32))), (.int (nar .byte ((sd + (1 : Int32)).toInt8.toInt32))), (.int (nar .byte ((sd + (2 : Int32)).toInt8.toInt32))), (.int (nar .byte ((sd + (3 : Int32)).toInt8.toInt32))), (.int (nar .byte ((sd + (4 : Int32)).toInt8.toInt32))), (.int (nar .byte ((sd + (5 : Int32)).toInt8.toInt32))), (.int (nar .byte ((sd + (6 : Int32)).toInt8.toInt32))), (.int (nar .byte ((sd + (7 : Int32)).toInt8.toInt32))), (.int (nar .byte ((sd + (8 : Int32)).toInt8.toInt32))), (.int (nar .byte ((sd + (9 : Int32)).toInt8.toInt32))), (.int (nar .byte ((sd + (10 : Int32)).toInt8.toInt32))), (.int (nar .byte ((sd + (11 : Int32)).toInt8.toInt32))), (.int (nar .byte ((sd + (12 : Int32)).toInt8.toInt32))), (.int (nar .byte ((sd + (13 : Int32)).toInt8.toInt32))), (.int (nar .byte ((sd + (14 : Int32)).toInt8.toInt32))), (.int (nar .byte ((sd + (15 : Int32)).toInt8.toInt32))), (.int (nar .byte ((sd + (16 : Int32)).toInt8.toInt32))), (.int (nar .byte ((sd + (17 : Int32)).toInt8.toInt32))), (.int (nar .byte ((sd + (18 : Int32)).toInt8.toInt32))), (.int (nar .byte ((sd + (19 : Int32)).toInt8.toInt32))), (.int (nar .byte ((sd + (20 : Int32)).toInt8.toInt32))), (.int (nar .byte ((sd + (21 : Int32)).toInt8.toInt32))), (.int (nar .byte ((sd + (22 : Int32)).toInt8.toInt32))), (.int (nar .byte ((sd + (23 : Int32)).toInt8.toInt32))), (.int (nar .byte ((sd + (24 : Int32)).toInt8.toInt32))), (.int (nar .byte ((sd + (25 : Int32)).toInt8.toInt32))), (.int (nar .byte ((sd + (26 : Int32)).toInt8.toInt32))), (.int (nar .byte ((sd + (27 : Int32)).toInt8.toInt32))), (.int (nar .byte ((sd + (28 : Int32)).toInt8.toInt32))), (.int (nar .byte ((sd + (29 : Int32)).toInt8.toInt32))), (.int (nar .byte ((sd + (30 : Int32)).toInt8.toInt32))), (.int (nar .byte ((sd + (31 : Int32)).toInt8.toInt32))), (.int (nar .byte ((sd + (32 : Int32)).toInt8.toInt32))), (.int (0 : Int32)), (.int (0 : Int32)), (.int (0 : Int32)), (.int (0 : Int32)), (.int (0 : Int32)), (.int (0 : Int32)), (.int (0 : Int32)), (.int (0 : Int32)), (.int (0 : Int32)), (.int (0 : Int32)), (.int (0 : Int32)), (.int (0 : Int32)), (.int (0 : Int32)), (.int (0 : Int32)), (.int (0 : Int32))] (.int (0 : Int32)) := Arv.set Ar199 q1_199 Sz199 q3_199 Hs199 G199 (fits_nar_byte _) W199 32 (by decide) (show 32 < 48 by decide)
  have pre201 : ∀ t, Steps p.tables e below (T199.setTop (mkF m 323 #[.val (.int sd), .val (.int xs), .val (.int ys), .val (.int ws0), .val (.int hs), .val (.long pk), .second, .val (.int sd), .unset, .unset, .unset, .unset, .unset, .unset, .unset, .unset, .unset, .unset, .unset, .unset, .unset] [(.ref b1)])) t → Steps p.tables e below (s₁.setTop (entryFrame m #[(.int sd), (.int xs), (.int ys), (.int ws0), (.int hs), (.long pk)] maxLocals)) t := fun t k => pre198 t (st199 t k)
  obtain ⟨Lo202, Xo202, No202⟩ : ∃ L, Stand p l e room_1 s m #[(.int sd), (.int xs), (.int ys), (.int ws0), (.int hs), (.long pk)] below meth c T199 L 1 48 ∧ Fr n0 L := ⟨_, X199, N199⟩
  have E203_0 : Exa Z h199 b1 "[B" := (E197_0.wr W199)
  have Z203 : n0 ≤ h199.size := (Nat.le_trans Z197 (Nat.le_of_eq W199.size.symm))
  have pre204 : ∀ t, Steps p.tables e below (T199.setTop (mkF m 332 #[.val (.int sd), .val (.int xs), .val (.int ys), .val (.int ws0), .val (.int hs), .val (.long pk), .second, .val (.int sd), .unset, .unset, .unset, .unset, .unset, .unset, .unset, .unset, .unset, .unset, .unset, .unset, .unset] [(.int ((sd + (33 : Int32)).toInt8.toInt32)), (.int (33 : Int32)), (.ref b1), (.ref b1)])) t → Steps p.tables e below (s₁.setTop (entryFrame m #[(.int sd), (.int xs), (.int ys), (.int ws0), (.int hs), (.long pk)] maxLocals)) t := by
    intro t k
    refine pre201 t ?_
    refine XS.dup Xo202.here hx rfl (hb hby at_323) rfl rfl ?_
    show Steps p.tables e below (T199.setTop (mkF m 324 #[.val (.int sd), .val (.int xs), .val (.int ys), .val (.int ws0), .val (.int hs), .val (.long pk), .second, .val (.int sd), .unset, .unset, .unset, .unset, .unset, .unset, .unset, .unset, .unset, .unset, .unset, .unset, .unset] [(.ref b1), (.ref b1)])) _
    refine XS.bipush Xo202.here hx rfl (hb hby at_324) ?_
    show Steps p.tables e below (T199.setTop (mkF m 326 #[.val (.int sd), .val (.int xs), .val (.int ys), .val (.int ws0), .val (.int hs), .val (.long pk), .second, .val (.int sd), .unset, .unset, .unset, .unset, .unset, .unset, .unset, .unset, .unset, .unset, .unset, .unset, .unset] [(.int (33 : Int32)), (.ref b1), (.ref b1)])) _
    refine XS.iload Xo202.here hx rfl (hb hby at_326) rfl ?_
    show Steps p.tables e below (T199.setTop (mkF m 328 #[.val (.int sd), .val (.int xs), .val (.int ys), .val (.int ws0), .val (.int hs), .val (.long pk), .second, .val (.int sd), .unset, .unset, .unset, .unset, .unset, .unset, .unset, .unset, .unset, .unset, .unset, .unset, .unset] [(.int sd), (.int (33 : Int32)), (.ref b1), (.ref b1)])) _
    refine XS.bipush Xo202.here hx rfl (hb hby at_328) ?_
    show Steps p.tables e below (T199.setTop (mkF m 330 #[.val (.int sd), .val (.int xs), .val (.int ys), .val (.int ws0), .val (.int hs), .val (.long pk), .second, .val (.int sd), .unset, .unset, .unset, .unset, .unset, .unset, .unset, .unset, .unset, .unset, .unset, .unset, .unset] [(.int (33 : Int32)), (.int sd), (.int (33 : Int32)), (.ref b1), (.ref b1)])) _
    refine XS.iadd Xo202.here hx rfl (hb hby at_330) rfl ?_
    show Steps p.tables e below (T199.setTop (mkF m 331 #[.val (.int sd), .val (.int xs), .val (.int ys), .val (.int ws0), .val (.int hs), .val (.long pk), .second, .val (.int sd), .unset, .unset, .unset, .unset, .unset, .unset, .unset, .unset, .unset, .unset, .unset, .unset, .unset] [(.int (sd + (33 : Int32))), (.int (33 : Int32)), (.ref b1), (.ref b1)])) _
    refine XT.i2b Xo202.here hx rfl (hb hby at_331) rfl ?_
    show Steps p.tables e below (T199.setTop (mkF m 332 #[.val (.int sd), .val (.int xs), .val (.int ys), .val (.int ws0), .val (.int hs), .val (.long pk), .second, .val (.int sd), .unset, .unset, .unset, .unset, .unset, .unset, .unset, .unset, .unset, .unset, .unset, .unset, .unset] [(.int ((sd + (33 : Int32)).toInt8.toInt32)), (.int (33 : Int32)), (.ref b1), (.ref b1)])) _
    exact k
  obtain ⟨cc205, Ar205, q1_205, Sz205, q3_205, Hs205, G205⟩ := id V199
  have hin205 : ¬ ((33 : Int32) < 0 ∨ cc205.slots.size ≤ ((33 : Int32) : Int32).toNatClampNeg) := inb_of Sz205 ⟨(by decide), (by decide)⟩
  obtain ⟨T205, h205, X205, e205, W205, st205⟩ := stB Xo202 hx hZ e199 Ar205 hin205 (g := (mkF m 332 #[.val (.int sd), .val (.int xs), .val (.int ys), .val (.int ws0), .val (.int hs), .val (.long pk), .second, .val (.int sd), .unset, .unset, .unset, .unset, .unset, .unset, .unset, .unset, .unset, .unset, .unset, .unset, .unset] [(.int ((sd + (33 : Int32)).toInt8.toInt32)), (.int (33 : Int32)), (.ref b1), (.ref b1)])) rfl rfl (hb hby at_332)
  have N205 := Fr.snoc X205 No202 g_b1
  have V205 : Arv Z h205 b1 cA3 .byte (48 : Int32) [(.int (nar .byte (sd.toInt8.toInt32))), (.int (nar .byte ((sd + (1 : Int32)).toInt8.toInt32))), (.int (nar .byte ((sd + (2 : Int32)).toInt8.toInt32))), (.int (nar .byte ((sd + (3 : Int32)).toInt8.toInt32))), (.int (nar .byte ((sd + (4 : Int32)).toInt8.toInt32))), (.int (nar .byte ((sd + (5 : Int32)).toInt8.toInt32))), (.int (nar .byte ((sd + (6 : Int32)).toInt8.toInt32))), (.int (nar .byte ((sd + (7 : Int32)).toInt8.toInt32))), (.int (nar .byte ((sd + (8 : Int32)).toInt8.toInt32))), (.int (nar .byte ((sd + (9 : Int32)).toInt8.toInt32))), (.int (nar .byte ((sd + (10 : Int32)).toInt8.toInt32))), (.int (nar .byte ((sd + (11 : Int32)).toInt8.toInt32))), (.int (nar .byte ((sd + (12 : Int32)).toInt8.toInt32))), (.int (nar .byte ((sd + (13 : Int32)).toInt8.toInt32))), (.int (nar .byte ((sd + (14 : Int32)).toInt8.toInt32))), (.int (nar .byte ((sd + (15 : Int32)).toInt8.toInt32))), (.int (nar .byte ((sd + (16 : Int32)).toInt8.toInt32))), (.int (nar .byte ((sd + (17 : Int32)).toInt8.toInt32))), (.int (nar .byte ((sd + (18 : Int32)).toInt8.toInt32))), (.int (nar .byte ((sd + (19 : Int32)).toInt8.toInt32))), (.int (nar .byte ((sd + (20 : Int32)).toInt8.toInt32))), (.int (nar .byte ((sd + (21 : Int32)).toInt8.toInt32))), (.int (nar .byte ((sd + (22 : Int32)).toInt8.toInt32))), (.int (nar .byte ((sd + (23 : Int32)).toInt8.toInt32))), (.int (nar .byte ((sd + (24 : Int32)).toInt8.toInt32))), (.int (nar .byte ((sd + (25 : Int32)).toInt8.toInt32))), (.int (nar .byte ((sd + (26 : Int32)).toInt8.toInt32))), (.int (nar .byte ((sd + (27 : Int32)).toInt8.toInt32))), (.int (nar .byte ((sd + (28 : Int32)).toInt8.toInt32))), (.int (nar .byte ((sd + (29 : Int32)).toInt8.toInt32))), (.int (nar .byte ((sd + (30 : Int32)).toInt8.toInt32))), (.int (nar .byte ((sd + (31 : Int32)).toInt8.toInt32))), (.int (nar .byte ((sd + (32 : Int32)).toInt8.toInt32))), (.int (nar .byte ((sd + (33 : Int32)).toInt8.toInt32))), (.int (0 : Int32)), (.int (0 : Int32)), (.int (0 : Int32)), (.int (0 : Int32)), (.int (0 : Int32)), (.int (0 : Int32)), (.int (0 : Int32)), (.int (0 : Int32)), (.int (0 : Int32)), (.int (0 : Int32)), (.int (0 : Int32)), (.int (0 : Int32)), (.int (0 : Int32)), (.int (0 : Int32))] (.int (0 : Int32)) := Arv.set Ar205 q1_205 Sz205 q3_205 Hs205 G205 (fits_nar_byte _) W205 33 (by decide) (show 33 < 48 by decide)
  have pre207 : ∀ t, Steps p.tables e below (T205.setTop (mkF m 333 #[.val (.int sd), .val (.int xs), .val (.int ys), .val (.int ws0), .val (.int hs), .val (.long pk), .second, .val (.int sd), .unset, .unset, .unset, .unset, .unset, .unset, .unset, .unset, .unset, .unset, .unset, .unset, .unset] [(.ref b1)])) t → Steps p.tables e below (s₁.setTop (entryFrame m #[(.int sd), (.int xs), (.int ys), (.int ws0), (.int hs), (.long pk)] maxLocals)) t := fun t k => pre204 t (st205 t k)
  obtain ⟨Lo208, Xo208, No208⟩ : ∃ L, Stand p l e room_1 s m #[(.int sd), (.int xs), (.int ys), (.int ws0), (.int hs), (.long pk)] below meth c T205 L 1 48 ∧ Fr n0 L := ⟨_, X205, N205⟩
  have E209_0 : Exa Z h205 b1 "[B" := (E203_0.wr W205)
  have Z209 : n0 ≤ h205.size := (Nat.le_trans Z203 (Nat.le_of_eq W205.size.symm))
  have pre210 : ∀ t, Steps p.tables e below (T205.setTop (mkF m 342 #[.val (.int sd), .val (.int xs), .val (.int ys), .val (.int ws0), .val (.int hs), .val (.long pk), .second, .val (.int sd), .unset, .unset, .unset, .unset, .unset, .unset, .unset, .unset, .unset, .unset, .unset, .unset, .unset] [(.int ((sd + (34 : Int32)).toInt8.toInt32)), (.int (34 : Int32)), (.ref b1), (.ref b1)])) t → Steps p.tables e below (s₁.setTop (entryFrame m #[(.int sd), (.int xs), (.int ys), (.int ws0), (.int hs), (.long pk)] maxLocals)) t := by
    intro t k
    refine pre207 t ?_
    refine XS.dup Xo208.here hx rfl (hb hby at_333) rfl rfl ?_
    show Steps p.tables e below (T205.setTop (mkF m 334 #[.val (.int sd), .val (.int xs), .val (.int ys), .val (.int ws0), .val (.int hs), .val (.long pk), .second, .val (.int sd), .unset, .unset, .unset, .unset, .unset, .unset, .unset, .unset, .unset, .unset, .unset, .unset, .unset] [(.ref b1), (.ref b1)])) _
    refine XS.bipush Xo208.here hx rfl (hb hby at_334) ?_
    show Steps p.tables e below (T205.setTop (mkF m 336 #[.val (.int sd), .val (.int xs), .val (.int ys), .val (.int ws0), .val (.int hs), .val (.long pk), .second, .val (.int sd), .unset, .unset, .unset, .unset, .unset, .unset, .unset, .unset, .unset, .unset, .unset, .unset, .unset] [(.int (34 : Int32)), (.ref b1), (.ref b1)])) _
    refine XS.iload Xo208.here hx rfl (hb hby at_336) rfl ?_
    show Steps p.tables e below (T205.setTop (mkF m 338 #[.val (.int sd), .val (.int xs), .val (.int ys), .val (.int ws0), .val (.int hs), .val (.long pk), .second, .val (.int sd), .unset, .unset, .unset, .unset, .unset, .unset, .unset, .unset, .unset, .unset, .unset, .unset, .unset] [(.int sd), (.int (34 : Int32)), (.ref b1), (.ref b1)])) _
    refine XS.bipush Xo208.here hx rfl (hb hby at_338) ?_
    show Steps p.tables e below (T205.setTop (mkF m 340 #[.val (.int sd), .val (.int xs), .val (.int ys), .val (.int ws0), .val (.int hs), .val (.long pk), .second, .val (.int sd), .unset, .unset, .unset, .unset, .unset, .unset, .unset, .unset, .unset, .unset, .unset, .unset, .unset] [(.int (34 : Int32)), (.int sd), (.int (34 : Int32)), (.ref b1), (.ref b1)])) _
    refine XS.iadd Xo208.here hx rfl (hb hby at_340) rfl ?_
    show Steps p.tables e below (T205.setTop (mkF m 341 #[.val (.int sd), .val (.int xs), .val (.int ys), .val (.int ws0), .val (.int hs), .val (.long pk), .second, .val (.int sd), .unset, .unset, .unset, .unset, .unset, .unset, .unset, .unset, .unset, .unset, .unset, .unset, .unset] [(.int (sd + (34 : Int32))), (.int (34 : Int32)), (.ref b1), (.ref b1)])) _
    refine XT.i2b Xo208.here hx rfl (hb hby at_341) rfl ?_
    show Steps p.tables e below (T205.setTop (mkF m 342 #[.val (.int sd), .val (.int xs), .val (.int ys), .val (.int ws0), .val (.int hs), .val (.long pk), .second, .val (.int sd), .unset, .unset, .unset, .unset, .unset, .unset, .unset, .unset, .unset, .unset, .unset, .unset, .unset] [(.int ((sd + (34 : Int32)).toInt8.toInt32)), (.int (34 : Int32)), (.ref b1), (.ref b1)])) _
    exact k
  obtain ⟨cc211, Ar211, q1_211, Sz211, q3_211, Hs211, G211⟩ := id V205
  have hin211 : ¬ ((34 : Int32) < 0 ∨ cc211.slots.size ≤ ((34 : Int32) : Int32).toNatClampNeg) := inb_of Sz211 ⟨(by decide), (by decide)⟩
  obtain ⟨T211, h211, X211, e211, W211, st211⟩ := stB Xo208 hx hZ e205 Ar211 hin211 (g := (mkF m 342 #[.val (.int sd), .val (.int xs), .val (.int ys), .val (.int ws0), .val (.int hs), .val (.long pk), .second, .val (.int sd), .unset, .unset, .unset, .unset, .unset, .unset, .unset, .unset, .unset, .unset, .unset, .unset, .unset] [(.int ((sd + (34 : Int32)).toInt8.toInt32)), (.int (34 : Int32)), (.ref b1), (.ref b1)])) rfl rfl (hb hby at_342)
  have N211 := Fr.snoc X211 No208 g_b1
  have V211 : Arv Z h211 b1 cA3 .byte (48 : Int32) [(.int (nar .byte (sd.toInt8.toInt32))), (.int (nar .byte ((sd + (1 : Int32)).toInt8.toInt32))), (.int (nar .byte ((sd + (2 : Int32)).toInt8.toInt32))), (.int (nar .byte ((sd + (3 : Int32)).toInt8.toInt32))), (.int (nar .byte ((sd + (4 : Int32)).toInt8.toInt32))), (.int (nar .byte ((sd + (5 : Int32)).toInt8.toInt32))), (.int (nar .byte ((sd + (6 : Int32)).toInt8.toInt32))), (.int (nar .byte ((sd + (7 : Int32)).toInt8.toInt32))), (.int (nar .byte ((sd + (8 : Int32)).toInt8.toInt32))), (.int (nar .byte ((sd + (9 : Int32)).toInt8.toInt32))), (.int (nar .byte ((sd + (10 : Int32)).toInt8.toInt32))), (.int (nar .byte ((sd + (11 : Int32)).toInt8.toInt32))), (.int (nar .byte ((sd + (12 : Int32)).toInt8.toInt32))), (.int (nar .byte ((sd + (13 : Int32)).toInt8.toInt32))), (.int (nar .byte ((sd + (14 : Int32)).toInt8.toInt32))), (.int (nar .byte ((sd + (15 : Int32)).toInt8.toInt32))), (.int (nar .byte ((sd + (16 : Int32)).toInt8.toInt32))), (.int (nar .byte ((sd + (17 : Int32)).toInt8.toInt32))), (.int (nar .byte ((sd + (18 : Int32)).toInt8.toInt32))), (.int (nar .byte ((sd + (19 : Int32)).toInt8.toInt32))), (.int (nar .byte ((sd + (20 : Int32)).toInt8.toInt32))), (.int (nar .byte ((sd + (21 : Int32)).toInt8.toInt32))), (.int (nar .byte ((sd + (22 : Int32)).toInt8.toInt32))), (.int (nar .byte ((sd + (23 : Int32)).toInt8.toInt32))), (.int (nar .byte ((sd + (24 : Int32)).toInt8.toInt32))), (.int (nar .byte ((sd + (25 : Int32)).toInt8.toInt32))), (.int (nar .byte ((sd + (26 : Int32)).toInt8.toInt32))), (.int (nar .byte ((sd + (27 : Int32)).toInt8.toInt32))), (.int (nar .byte ((sd + (28 : Int32)).toInt8.toInt32))), (.int (nar .byte ((sd + (29 : Int32)).toInt8.toInt32))), (.int (nar .byte ((sd + (30 : Int32)).toInt8.toInt32))), (.int (nar .byte ((sd + (31 : Int32)).toInt8.toInt32))), (.int (nar .byte ((sd + (32 : Int32)).toInt8.toInt32))), (.int (nar .byte ((sd + (33 : Int32)).toInt8.toInt32))), (.int (nar .byte ((sd + (34 : Int32)).toInt8.toInt32))), (.int (0 : Int32)), (.int (0 : Int32)), (.int (0 : Int32)), (.int (0 : Int32)), (.int (0 : Int32)), (.int (0 : Int32)), (.int (0 : Int32)), (.int (0 : Int32)), (.int (0 : Int32)), (.int (0 : Int32)), (.int (0 : Int32)), (.int (0 : Int32)), (.int (0 : Int32))] (.int (0 : Int32)) := Arv.set Ar211 q1_211 Sz211 q3_211 Hs211 G211 (fits_nar_byte _) W211 34 (by decide) (show 34 < 48 by decide)
  have pre213 : ∀ t, Steps p.tables e below (T211.setTop (mkF m 343 #[.val (.int sd), .val (.int xs), .val (.int ys), .val (.int ws0), .val (.int hs), .val (.long pk), .second, .val (.int sd), .unset, .unset, .unset, .unset, .unset, .unset, .unset, .unset, .unset, .unset, .unset, .unset, .unset] [(.ref b1)])) t → Steps p.tables e below (s₁.setTop (entryFrame m #[(.int sd), (.int xs), (.int ys), (.int ws0), (.int hs), (.long pk)] maxLocals)) t := fun t k => pre210 t (st211 t k)
  obtain ⟨Lo214, Xo214, No214⟩ : ∃ L, Stand p l e room_1 s m #[(.int sd), (.int xs), (.int ys), (.int ws0), (.int hs), (.long pk)] below meth c T211 L 1 48 ∧ Fr n0 L := ⟨_, X211, N211⟩
  have E215_0 : Exa Z h211 b1 "[B" := (E209_0.wr W211)
  have Z215 : n0 ≤ h211.size := (Nat.le_trans Z209 (Nat.le_of_eq W211.size.symm))
  have pre216 : ∀ t, Steps p.tables e below (T211.setTop (mkF m 352 #[.val (.int sd), .val (.int xs), .val (.int ys), .val (.int ws0), .val (.int hs), .val (.long pk), .second, .val (.int sd), .unset, .unset, .unset, .unset, .unset, .unset, .unset, .unset, .unset, .unset, .unset, .unset, .unset] [(.int ((sd + (35 : Int32)).toInt8.toInt32)), (.int (35 : Int32)), (.ref b1), (.ref b1)])) t → Steps p.tables e below (s₁.setTop (entryFrame m #[(.int sd), (.int xs), (.int ys), (.int ws0), (.int hs), (.long pk)] maxLocals)) t := by
    intro t k
    refine pre213 t ?_
    refine XS.dup Xo214.here hx rfl (hb hby at_343) rfl rfl ?_
    show Steps p.tables e below (T211.setTop (mkF m 344 #[.val (.int sd), .val (.int xs), .val (.int ys), .val (.int ws0), .val (.int hs), .val (.long pk), .second, .val (.int sd), .unset, .unset, .unset, .unset, .unset, .unset, .unset, .unset, .unset, .unset, .unset, .unset, .unset] [(.ref b1), (.ref b1)])) _
    refine XS.bipush Xo214.here hx rfl (hb hby at_344) ?_
    show Steps p.tables e below (T211.setTop (mkF m 346 #[.val (.int sd), .val (.int xs), .val (.int ys), .val (.int ws0), .val (.int hs), .val (.long pk), .second, .val (.int sd), .unset, .unset, .unset, .unset, .unset, .unset, .unset, .unset, .unset, .unset, .unset, .unset, .unset] [(.int (35 : Int32)), (.ref b1), (.ref b1)])) _
    refine XS.iload Xo214.here hx rfl (hb hby at_346) rfl ?_
    show Steps p.tables e below (T211.setTop (mkF m 348 #[.val (.int sd), .val (.int xs), .val (.int ys), .val (.int ws0), .val (.int hs), .val (.long pk), .second, .val (.int sd), .unset, .unset, .unset, .unset, .unset, .unset, .unset, .unset, .unset, .unset, .unset, .unset, .unset] [(.int sd), (.int (35 : Int32)), (.ref b1), (.ref b1)])) _
    refine XS.bipush Xo214.here hx rfl (hb hby at_348) ?_
    show Steps p.tables e below (T211.setTop (mkF m 350 #[.val (.int sd), .val (.int xs), .val (.int ys), .val (.int ws0), .val (.int hs), .val (.long pk), .second, .val (.int sd), .unset, .unset, .unset, .unset, .unset, .unset, .unset, .unset, .unset, .unset, .unset, .unset, .unset] [(.int (35 : Int32)), (.int sd), (.int (35 : Int32)), (.ref b1), (.ref b1)])) _
    refine XS.iadd Xo214.here hx rfl (hb hby at_350) rfl ?_
    show Steps p.tables e below (T211.setTop (mkF m 351 #[.val (.int sd), .val (.int xs), .val (.int ys), .val (.int ws0), .val (.int hs), .val (.long pk), .second, .val (.int sd), .unset, .unset, .unset, .unset, .unset, .unset, .unset, .unset, .unset, .unset, .unset, .unset, .unset] [(.int (sd + (35 : Int32))), (.int (35 : Int32)), (.ref b1), (.ref b1)])) _
    refine XT.i2b Xo214.here hx rfl (hb hby at_351) rfl ?_
    show Steps p.tables e below (T211.setTop (mkF m 352 #[.val (.int sd), .val (.int xs), .val (.int ys), .val (.int ws0), .val (.int hs), .val (.long pk), .second, .val (.int sd), .unset, .unset, .unset, .unset, .unset, .unset, .unset, .unset, .unset, .unset, .unset, .unset, .unset] [(.int ((sd + (35 : Int32)).toInt8.toInt32)), (.int (35 : Int32)), (.ref b1), (.ref b1)])) _
    exact k
  obtain ⟨cc217, Ar217, q1_217, Sz217, q3_217, Hs217, G217⟩ := id V211
  have hin217 : ¬ ((35 : Int32) < 0 ∨ cc217.slots.size ≤ ((35 : Int32) : Int32).toNatClampNeg) := inb_of Sz217 ⟨(by decide), (by decide)⟩
  obtain ⟨T217, h217, X217, e217, W217, st217⟩ := stB Xo214 hx hZ e211 Ar217 hin217 (g := (mkF m 352 #[.val (.int sd), .val (.int xs), .val (.int ys), .val (.int ws0), .val (.int hs), .val (.long pk), .second, .val (.int sd), .unset, .unset, .unset, .unset, .unset, .unset, .unset, .unset, .unset, .unset, .unset, .unset, .unset] [(.int ((sd + (35 : Int32)).toInt8.toInt32)), (.int (35 : Int32)), (.ref b1), (.ref b1)])) rfl rfl (hb hby at_352)
  have N217 := Fr.snoc X217 No214 g_b1
  have V217 : Arv Z h217 b1 cA3 .byte (48 : Int32) [(.int (nar .byte (sd.toInt8.toInt32))), (.int (nar .byte ((sd + (1 : Int32)).toInt8.toInt32))), (.int (nar .byte ((sd + (2 : Int32)).toInt8.toInt32))), (.int (nar .byte ((sd + (3 : Int32)).toInt8.toInt32))), (.int (nar .byte ((sd + (4 : Int32)).toInt8.toInt32))), (.int (nar .byte ((sd + (5 : Int32)).toInt8.toInt32))), (.int (nar .byte ((sd + (6 : Int32)).toInt8.toInt32))), (.int (nar .byte ((sd + (7 : Int32)).toInt8.toInt32))), (.int (nar .byte ((sd + (8 : Int32)).toInt8.toInt32))), (.int (nar .byte ((sd + (9 : Int32)).toInt8.toInt32))), (.int (nar .byte ((sd + (10 : Int32)).toInt8.toInt32))), (.int (nar .byte ((sd + (11 : Int32)).toInt8.toInt32))), (.int (nar .byte ((sd + (12 : Int32)).toInt8.toInt32))), (.int (nar .byte ((sd + (13 : Int32)).toInt8.toInt32))), (.int (nar .byte ((sd + (14 : Int32)).toInt8.toInt32))), (.int (nar .byte ((sd + (15 : Int32)).toInt8.toInt32))), (.int (nar .byte ((sd + (16 : Int32)).toInt8.toInt32))), (.int (nar .byte ((sd + (17 : Int32)).toInt8.toInt32))), (.int (nar .byte ((sd + (18 : Int32)).toInt8.toInt32))), (.int (nar .byte ((sd + (19 : Int32)).toInt8.toInt32))), (.int (nar .byte ((sd + (20 : Int32)).toInt8.toInt32))), (.int (nar .byte ((sd + (21 : Int32)).toInt8.toInt32))), (.int (nar .byte ((sd + (22 : Int32)).toInt8.toInt32))), (.int (nar .byte ((sd + (23 : Int32)).toInt8.toInt32))), (.int (nar .byte ((sd + (24 : Int32)).toInt8.toInt32))), (.int (nar .byte ((sd + (25 : Int32)).toInt8.toInt32))), (.int (nar .byte ((sd + (26 : Int32)).toInt8.toInt32))), (.int (nar .byte ((sd + (27 : Int32)).toInt8.toInt32))), (.int (nar .byte ((sd + (28 : Int32)).toInt8.toInt32))), (.int (nar .byte ((sd + (29 : Int32)).toInt8.toInt32))), (.int (nar .byte ((sd + (30 : Int32)).toInt8.toInt32))), (.int (nar .byte ((sd + (31 : Int32)).toInt8.toInt32))), (.int (nar .byte ((sd + (32 : Int32)).toInt8.toInt32))), (.int (nar .byte ((sd + (33 : Int32)).toInt8.toInt32))), (.int (nar .byte ((sd + (34 : Int32)).toInt8.toInt32))), (.int (nar .byte ((sd + (35 : Int32)).toInt8.toInt32))), (.int (0 : Int32)), (.int (0 : Int32)), (.int (0 : Int32)), (.int (0 : Int32)), (.int (0 : Int32)), (.int (0 : Int32)), (.int (0 : Int32)), (.int (0 : Int32)), (.int (0 : Int32)), (.int (0 : Int32)), (.int (0 : Int32)), (.int (0 : Int32))] (.int (0 : Int32)) := Arv.set Ar217 q1_217 Sz217 q3_217 Hs217 G217 (fits_nar_byte _) W217 35 (by decide) (show 35 < 48 by decide)
  have pre219 : ∀ t, Steps p.tables e below (T217.setTop (mkF m 353 #[.val (.int sd), .val (.int xs), .val (.int ys), .val (.int ws0), .val (.int hs), .val (.long pk), .second, .val (.int sd), .unset, .unset, .unset, .unset, .unset, .unset, .unset, .unset, .unset, .unset, .unset, .unset, .unset] [(.ref b1)])) t → Steps p.tables e below (s₁.setTop (entryFrame m #[(.int sd), (.int xs), (.int ys), (.int ws0), (.int hs), (.long pk)] maxLocals)) t := fun t k => pre216 t (st217 t k)
  obtain ⟨Lo220, Xo220, No220⟩ : ∃ L, Stand p l e room_1 s m #[(.int sd), (.int xs), (.int ys), (.int ws0), (.int hs), (.long pk)] below meth c T217 L 1 48 ∧ Fr n0 L := ⟨_, X217, N217⟩
  have E221_0 : Exa Z h217 b1 "[B" := (E215_0.wr W217)
  have Z221 : n0 ≤ h217.size := (Nat.le_trans Z215 (Nat.le_of_eq W217.size.symm))
  have pre222 : ∀ t, Steps p.tables e below (T217.setTop (mkF m 362 #[.val (.int sd), .val (.int xs), .val (.int ys), .val (.int ws0), .val (.int hs), .val (.long pk), .second, .val (.int sd), .unset, .unset, .unset, .unset, .unset, .unset, .unset, .unset, .unset, .unset, .unset, .unset, .unset] [(.int ((sd + (36 : Int32)).toInt8.toInt32)), (.int (36 : Int32)), (.ref b1), (.ref b1)])) t → Steps p.tables e below (s₁.setTop (entryFrame m #[(.int sd), (.int xs), (.int ys), (.int ws0), (.int hs), (.long pk)] maxLocals)) t := by
    intro t k
    refine pre219 t ?_
    refine XS.dup Xo220.here hx rfl (hb hby at_353) rfl rfl ?_
    show Steps p.tables e below (T217.setTop (mkF m 354 #[.val (.int sd), .val (.int xs), .val (.int ys), .val (.int ws0), .val (.int hs), .val (.long pk), .second, .val (.int sd), .unset, .unset, .unset, .unset, .unset, .unset, .unset, .unset, .unset, .unset, .unset, .unset, .unset] [(.ref b1), (.ref b1)])) _
    refine XS.bipush Xo220.here hx rfl (hb hby at_354) ?_
    show Steps p.tables e below (T217.setTop (mkF m 356 #[.val (.int sd), .val (.int xs), .val (.int ys), .val (.int ws0), .val (.int hs), .val (.long pk), .second, .val (.int sd), .unset, .unset, .unset, .unset, .unset, .unset, .unset, .unset, .unset, .unset, .unset, .unset, .unset] [(.int (36 : Int32)), (.ref b1), (.ref b1)])) _
    refine XS.iload Xo220.here hx rfl (hb hby at_356) rfl ?_
    show Steps p.tables e below (T217.setTop (mkF m 358 #[.val (.int sd), .val (.int xs), .val (.int ys), .val (.int ws0), .val (.int hs), .val (.long pk), .second, .val (.int sd), .unset, .unset, .unset, .unset, .unset, .unset, .unset, .unset, .unset, .unset, .unset, .unset, .unset] [(.int sd), (.int (36 : Int32)), (.ref b1), (.ref b1)])) _
    refine XS.bipush Xo220.here hx rfl (hb hby at_358) ?_
    show Steps p.tables e below (T217.setTop (mkF m 360 #[.val (.int sd), .val (.int xs), .val (.int ys), .val (.int ws0), .val (.int hs), .val (.long pk), .second, .val (.int sd), .unset, .unset, .unset, .unset, .unset, .unset, .unset, .unset, .unset, .unset, .unset, .unset, .unset] [(.int (36 : Int32)), (.int sd), (.int (36 : Int32)), (.ref b1), (.ref b1)])) _
    refine XS.iadd Xo220.here hx rfl (hb hby at_360) rfl ?_
    show Steps p.tables e below (T217.setTop (mkF m 361 #[.val (.int sd), .val (.int xs), .val (.int ys), .val (.int ws0), .val (.int hs), .val (.long pk), .second, .val (.int sd), .unset, .unset, .unset, .unset, .unset, .unset, .unset, .unset, .unset, .unset, .unset, .unset, .unset] [(.int (sd + (36 : Int32))), (.int (36 : Int32)), (.ref b1), (.ref b1)])) _
    refine XT.i2b Xo220.here hx rfl (hb hby at_361) rfl ?_
    show Steps p.tables e below (T217.setTop (mkF m 362 #[.val (.int sd), .val (.int xs), .val (.int ys), .val (.int ws0), .val (.int hs), .val (.long pk), .second, .val (.int sd), .unset, .unset, .unset, .unset, .unset, .unset, .unset, .unset, .unset, .unset, .unset, .unset, .unset] [(.int ((sd + (36 : Int32)).toInt8.toInt32)), (.int (36 : Int32)), (.ref b1), (.ref b1)])) _
    exact k
  obtain ⟨cc223, Ar223, q1_223, Sz223, q3_223, Hs223, G223⟩ := id V217
  have hin223 : ¬ ((36 : Int32) < 0 ∨ cc223.slots.size ≤ ((36 : Int32) : Int32).toNatClampNeg) := inb_of Sz223 ⟨(by decide), (by decide)⟩
  obtain ⟨T223, h223, X223, e223, W223, st223⟩ := stB Xo220 hx hZ e217 Ar223 hin223 (g := (mkF m 362 #[.val (.int sd), .val (.int xs), .val (.int ys), .val (.int ws0), .val (.int hs), .val (.long pk), .second, .val (.int sd), .unset, .unset, .unset, .unset, .unset, .unset, .unset, .unset, .unset, .unset, .unset, .unset, .unset] [(.int ((sd + (36 : Int32)).toInt8.toInt32)), (.int (36 : Int32)), (.ref b1), (.ref b1)])) rfl rfl (hb hby at_362)
  have N223 := Fr.snoc X223 No220 g_b1
  have V223 : Arv Z h223 b1 cA3 .byte (48 : Int32) [(.int (nar .byte (sd.toInt8.toInt32))), (.int (nar .byte ((sd + (1 : Int32)).toInt8.toInt32))), (.int (nar .byte ((sd + (2 : Int32)).toInt8.toInt32))), (.int (nar .byte ((sd + (3 : Int32)).toInt8.toInt32))), (.int (nar .byte ((sd + (4 : Int32)).toInt8.toInt32))), (.int (nar .byte ((sd + (5 : Int32)).toInt8.toInt32))), (.int (nar .byte ((sd + (6 : Int32)).toInt8.toInt32))), (.int (nar .byte ((sd + (7 : Int32)).toInt8.toInt32))), (.int (nar .byte ((sd + (8 : Int32)).toInt8.toInt32))), (.int (nar .byte ((sd + (9 : Int32)).toInt8.toInt32))), (.int (nar .byte ((sd + (10 : Int32)).toInt8.toInt32))), (.int (nar .byte ((sd + (11 : Int32)).toInt8.toInt32))), (.int (nar .byte ((sd + (12 : Int32)).toInt8.toInt32))), (.int (nar .byte ((sd + (13 : Int32)).toInt8.toInt32))), (.int (nar .byte ((sd + (14 : Int32)).toInt8.toInt32))), (.int (nar .byte ((sd + (15 : Int32)).toInt8.toInt32))), (.int (nar .byte ((sd + (16 : Int32)).toInt8.toInt32))), (.int (nar .byte ((sd + (17 : Int32)).toInt8.toInt32))), (.int (nar .byte ((sd + (18 : Int32)).toInt8.toInt32))), (.int (nar .byte ((sd + (19 : Int32)).toInt8.toInt32))), (.int (nar .byte ((sd + (20 : Int32)).toInt8.toInt32))), (.int (nar .byte ((sd + (21 : Int32)).toInt8.toInt32))), (.int (nar .byte ((sd + (22 : Int32)).toInt8.toInt32))), (.int (nar .byte ((sd + (23 : Int32)).toInt8.toInt32))), (.int (nar .byte ((sd + (24 : Int32)).toInt8.toInt32))), (.int (nar .byte ((sd + (25 : Int32)).toInt8.toInt32))), (.int (nar .byte ((sd + (26 : Int32)).toInt8.toInt32))), (.int (nar .byte ((sd + (27 : Int32)).toInt8.toInt32))), (.int (nar .byte ((sd + (28 : Int32)).toInt8.toInt32))), (.int (nar .byte ((sd + (29 : Int32)).toInt8.toInt32))), (.int (nar .byte ((sd + (30 : Int32)).toInt8.toInt32))), (.int (nar .byte ((sd + (31 : Int32)).toInt8.toInt32))), (.int (nar .byte ((sd + (32 : Int32)).toInt8.toInt32))), (.int (nar .byte ((sd + (33 : Int32)).toInt8.toInt32))), (.int (nar .byte ((sd + (34 : Int32)).toInt8.toInt32))), (.int (nar .byte ((sd + (35 : Int32)).toInt8.toInt32))), (.int (nar .byte ((sd + (36 : Int32)).toInt8.toInt32))), (.int (0 : Int32)), (.int (0 : Int32)), (.int (0 : Int32)), (.int (0 : Int32)), (.int (0 : Int32)), (.int (0 : Int32)), (.int (0 : Int32)), (.int (0 : Int32)), (.int (0 : Int32)), (.int (0 : Int32)), (.int (0 : Int32))] (.int (0 : Int32)) := Arv.set Ar223 q1_223 Sz223 q3_223 Hs223 G223 (fits_nar_byte _) W223 36 (by decide) (show 36 < 48 by decide)
  have pre225 : ∀ t, Steps p.tables e below (T223.setTop (mkF m 363 #[.val (.int sd), .val (.int xs), .val (.int ys), .val (.int ws0), .val (.int hs), .val (.long pk), .second, .val (.int sd), .unset, .unset, .unset, .unset, .unset, .unset, .unset, .unset, .unset, .unset, .unset, .unset, .unset] [(.ref b1)])) t → Steps p.tables e below (s₁.setTop (entryFrame m #[(.int sd), (.int xs), (.int ys), (.int ws0), (.int hs), (.long pk)] maxLocals)) t := fun t k => pre222 t (st223 t k)
  obtain ⟨Lo226, Xo226, No226⟩ : ∃ L, Stand p l e room_1 s m #[(.int sd), (.int xs), (.int ys), (.int ws0), (.int hs), (.long pk)] below meth c T223 L 1 48 ∧ Fr n0 L := ⟨_, X223, N223⟩
  have E227_0 : Exa Z h223 b1 "[B" := (E221_0.wr W223)
  have Z227 : n0 ≤ h223.size := (Nat.le_trans Z221 (Nat.le_of_eq W223.size.symm))
  have pre228 : ∀ t, Steps p.tables e below (T223.setTop (mkF m 372 #[.val (.int sd), .val (.int xs), .val (.int ys), .val (.int ws0), .val (.int hs), .val (.long pk), .second, .val (.int sd), .unset, .unset, .unset, .unset, .unset, .unset, .unset, .unset, .unset, .unset, .unset, .unset, .unset] [(.int ((sd + (37 : Int32)).toInt8.toInt32)), (.int (37 : Int32)), (.ref b1), (.ref b1)])) t → Steps p.tables e below (s₁.setTop (entryFrame m #[(.int sd), (.int xs), (.int ys), (.int ws0), (.int hs), (.long pk)] maxLocals)) t := by
    intro t k
    refine pre225 t ?_
    refine XS.dup Xo226.here hx rfl (hb hby at_363) rfl rfl ?_
    show Steps p.tables e below (T223.setTop (mkF m 364 #[.val (.int sd), .val (.int xs), .val (.int ys), .val (.int ws0), .val (.int hs), .val (.long pk), .second, .val (.int sd), .unset, .unset, .unset, .unset, .unset, .unset, .unset, .unset, .unset, .unset, .unset, .unset, .unset] [(.ref b1), (.ref b1)])) _
    refine XS.bipush Xo226.here hx rfl (hb hby at_364) ?_
    show Steps p.tables e below (T223.setTop (mkF m 366 #[.val (.int sd), .val (.int xs), .val (.int ys), .val (.int ws0), .val (.int hs), .val (.long pk), .second, .val (.int sd), .unset, .unset, .unset, .unset, .unset, .unset, .unset, .unset, .unset, .unset, .unset, .unset, .unset] [(.int (37 : Int32)), (.ref b1), (.ref b1)])) _
    refine XS.iload Xo226.here hx rfl (hb hby at_366) rfl ?_
    show Steps p.tables e below (T223.setTop (mkF m 368 #[.val (.int sd), .val (.int xs), .val (.int ys), .val (.int ws0), .val (.int hs), .val (.long pk), .second, .val (.int sd), .unset, .unset, .unset, .unset, .unset, .unset, .unset, .unset, .unset, .unset, .unset, .unset, .unset] [(.int sd), (.int (37 : Int32)), (.ref b1), (.ref b1)])) _
    refine XS.bipush Xo226.here hx rfl (hb hby at_368) ?_
    show Steps p.tables e below (T223.setTop (mkF m 370 #[.val (.int sd), .val (.int xs), .val (.int ys), .val (.int ws0), .val (.int hs), .val (.long pk), .second, .val (.int sd), .unset, .unset, .unset, .unset, .unset, .unset, .unset, .unset, .unset, .unset, .unset, .unset, .unset] [(.int (37 : Int32)), (.int sd), (.int (37 : Int32)), (.ref b1), (.ref b1)])) _
    refine XS.iadd Xo226.here hx rfl (hb hby at_370) rfl ?_
    show Steps p.tables e below (T223.setTop (mkF m 371 #[.val (.int sd), .val (.int xs), .val (.int ys), .val (.int ws0), .val (.int hs), .val (.long pk), .second, .val (.int sd), .unset, .unset, .unset, .unset, .unset, .unset, .unset, .unset, .unset, .unset, .unset, .unset, .unset] [(.int (sd + (37 : Int32))), (.int (37 : Int32)), (.ref b1), (.ref b1)])) _
    refine XT.i2b Xo226.here hx rfl (hb hby at_371) rfl ?_
    show Steps p.tables e below (T223.setTop (mkF m 372 #[.val (.int sd), .val (.int xs), .val (.int ys), .val (.int ws0), .val (.int hs), .val (.long pk), .second, .val (.int sd), .unset, .unset, .unset, .unset, .unset, .unset, .unset, .unset, .unset, .unset, .unset, .unset, .unset] [(.int ((sd + (37 : Int32)).toInt8.toInt32)), (.int (37 : Int32)), (.ref b1), (.ref b1)])) _
    exact k
  obtain ⟨cc229, Ar229, q1_229, Sz229, q3_229, Hs229, G229⟩ := id V223
  have hin229 : ¬ ((37 : Int32) < 0 ∨ cc229.slots.size ≤ ((37 : Int32) : Int32).toNatClampNeg) := inb_of Sz229 ⟨(by decide), (by decide)⟩
  obtain ⟨T229, h229, X229, e229, W229, st229⟩ := stB Xo226 hx hZ e223 Ar229 hin229 (g := (mkF m 372 #[.val (.int sd), .val (.int xs), .val (.int ys), .val (.int ws0), .val (.int hs), .val (.long pk), .second, .val (.int sd), .unset, .unset, .unset, .unset, .unset, .unset, .unset, .unset, .unset, .unset, .unset, .unset, .unset] [(.int ((sd + (37 : Int32)).toInt8.toInt32)), (.int (37 : Int32)), (.ref b1), (.ref b1)])) rfl rfl (hb hby at_372)
  have N229 := Fr.snoc X229 No226 g_b1
  have V229 : Arv Z h229 b1 cA3 .byte (48 : Int32) [(.int (nar .byte (sd.toInt8.toInt32))), (.int (nar .byte ((sd + (1 : Int32)).toInt8.toInt32))), (.int (nar .byte ((sd + (2 : Int32)).toInt8.toInt32))), (.int (nar .byte ((sd + (3 : Int32)).toInt8.toInt32))), (.int (nar .byte ((sd + (4 : Int32)).toInt8.toInt32))), (.int (nar .byte ((sd + (5 : Int32)).toInt8.toInt32))), (.int (nar .byte ((sd + (6 : Int32)).toInt8.toInt32))), (.int (nar .byte ((sd + (7 : Int32)).toInt8.toInt32))), (.int (nar .byte ((sd + (8 : Int32)).toInt8.toInt32))), (.int (nar .byte ((sd + (9 : Int32)).toInt8.toInt32))), (.int (nar .byte ((sd + (10 : Int32)).toInt8.toInt32))), (.int (nar .byte ((sd + (11 : Int32)).toInt8.toInt32))), (.int (nar .byte ((sd + (12 : Int32)).toInt8.toInt32))), (.int (nar .byte ((sd + (13 : Int32)).toInt8.toInt32))), (.int (nar .byte ((sd + (14 : Int32)).toInt8.toInt32))), (.int (nar .byte ((sd + (15 : Int32)).toInt8.toInt32))), (.int (nar .byte ((sd + (16 : Int32)).toInt8.toInt32))), (.int (nar .byte ((sd + (17 : Int32)).toInt8.toInt32))), (.int (nar .byte ((sd + (18 : Int32)).toInt8.toInt32))), (.int (nar .byte ((sd + (19 : Int32)).toInt8.toInt32))), (.int (nar .byte ((sd + (20 : Int32)).toInt8.toInt32))), (.int (nar .byte ((sd + (21 : Int32)).toInt8.toInt32))), (.int (nar .byte ((sd + (22 : Int32)).toInt8.toInt32))), (.int (nar .byte ((sd + (23 : Int32)).toInt8.toInt32))), (.int (nar .byte ((sd + (24 : Int32)).toInt8.toInt32))), (.int (nar .byte ((sd + (25 : Int32)).toInt8.toInt32))), (.int (nar .byte ((sd + (26 : Int32)).toInt8.toInt32))), (.int (nar .byte ((sd + (27 : Int32)).toInt8.toInt32))), (.int (nar .byte ((sd + (28 : Int32)).toInt8.toInt32))), (.int (nar .byte ((sd + (29 : Int32)).toInt8.toInt32))), (.int (nar .byte ((sd + (30 : Int32)).toInt8.toInt32))), (.int (nar .byte ((sd + (31 : Int32)).toInt8.toInt32))), (.int (nar .byte ((sd + (32 : Int32)).toInt8.toInt32))), (.int (nar .byte ((sd + (33 : Int32)).toInt8.toInt32))), (.int (nar .byte ((sd + (34 : Int32)).toInt8.toInt32))), (.int (nar .byte ((sd + (35 : Int32)).toInt8.toInt32))), (.int (nar .byte ((sd + (36 : Int32)).toInt8.toInt32))), (.int (nar .byte ((sd + (37 : Int32)).toInt8.toInt32))), (.int (0 : Int32)), (.int (0 : Int32)), (.int (0 : Int32)), (.int (0 : Int32)), (.int (0 : Int32)), (.int (0 : Int32)), (.int (0 : Int32)), (.int (0 : Int32)), (.int (0 : Int32)), (.int (0 : Int32))] (.int (0 : Int32)) := Arv.set Ar229 q1_229 Sz229 q3_229 Hs229 G229 (fits_nar_byte _) W229 37 (by decide) (show 37 < 48 by decide)
  have pre231 : ∀ t, Steps p.tables e below (T229.setTop (mkF m 373 #[.val (.int sd), .val (.int xs), .val (.int ys), .val (.int ws0), .val (.int hs), .val (.long pk), .second, .val (.int sd), .unset, .unset, .unset, .unset, .unset, .unset, .unset, .unset, .unset, .unset, .unset, .unset, .unset] [(.ref b1)])) t → Steps p.tables e below (s₁.setTop (entryFrame m #[(.int sd), (.int xs), (.int ys), (.int ws0), (.int hs), (.long pk)] maxLocals)) t := fun t k => pre228 t (st229 t k)
  obtain ⟨Lo232, Xo232, No232⟩ : ∃ L, Stand p l e room_1 s m #[(.int sd), (.int xs), (.int ys), (.int ws0), (.int hs), (.long pk)] below meth c T229 L 1 48 ∧ Fr n0 L := ⟨_, X229, N229⟩
  have E233_0 : Exa Z h229 b1 "[B" := (E227_0.wr W229)
  have Z233 : n0 ≤ h229.size := (Nat.le_trans Z227 (Nat.le_of_eq W229.size.symm))
  have pre234 : ∀ t, Steps p.tables e below (T229.setTop (mkF m 382 #[.val (.int sd), .val (.int xs), .val (.int ys), .val (.int ws0), .val (.int hs), .val (.long pk), .second, .val (.int sd), .unset, .unset, .unset, .unset, .unset, .unset, .unset, .unset, .unset, .unset, .unset, .unset, .unset] [(.int ((sd + (38 : Int32)).toInt8.toInt32)), (.int (38 : Int32)), (.ref b1), (.ref b1)])) t → Steps p.tables e below (s₁.setTop (entryFrame m #[(.int sd), (.int xs), (.int ys), (.int ws0), (.int hs), (.long pk)] maxLocals)) t := by
    intro t k
    refine pre231 t ?_
    refine XS.dup Xo232.here hx rfl (hb hby at_373) rfl rfl ?_
    show Steps p.tables e below (T229.setTop (mkF m 374 #[.val (.int sd), .val (.int xs), .val (.int ys), .val (.int ws0), .val (.int hs), .val (.long pk), .second, .val (.int sd), .unset, .unset, .unset, .unset, .unset, .unset, .unset, .unset, .unset, .unset, .unset, .unset, .unset] [(.ref b1), (.ref b1)])) _
    refine XS.bipush Xo232.here hx rfl (hb hby at_374) ?_
    show Steps p.tables e below (T229.setTop (mkF m 376 #[.val (.int sd), .val (.int xs), .val (.int ys), .val (.int ws0), .val (.int hs), .val (.long pk), .second, .val (.int sd), .unset, .unset, .unset, .unset, .unset, .unset, .unset, .unset, .unset, .unset, .unset, .unset, .unset] [(.int (38 : Int32)), (.ref b1), (.ref b1)])) _
    refine XS.iload Xo232.here hx rfl (hb hby at_376) rfl ?_
    show Steps p.tables e below (T229.setTop (mkF m 378 #[.val (.int sd), .val (.int xs), .val (.int ys), .val (.int ws0), .val (.int hs), .val (.long pk), .second, .val (.int sd), .unset, .unset, .unset, .unset, .unset, .unset, .unset, .unset, .unset, .unset, .unset, .unset, .unset] [(.int sd), (.int (38 : Int32)), (.ref b1), (.ref b1)])) _
    refine XS.bipush Xo232.here hx rfl (hb hby at_378) ?_
    show Steps p.tables e below (T229.setTop (mkF m 380 #[.val (.int sd), .val (.int xs), .val (.int ys), .val (.int ws0), .val (.int hs), .val (.long pk), .second, .val (.int sd), .unset, .unset, .unset, .unset, .unset, .unset, .unset, .unset, .unset, .unset, .unset, .unset, .unset] [(.int (38 : Int32)), (.int sd), (.int (38 : Int32)), (.ref b1), (.ref b1)])) _
    refine XS.iadd Xo232.here hx rfl (hb hby at_380) rfl ?_
    show Steps p.tables e below (T229.setTop (mkF m 381 #[.val (.int sd), .val (.int xs), .val (.int ys), .val (.int ws0), .val (.int hs), .val (.long pk), .second, .val (.int sd), .unset, .unset, .unset, .unset, .unset, .unset, .unset, .unset, .unset, .unset, .unset, .unset, .unset] [(.int (sd + (38 : Int32))), (.int (38 : Int32)), (.ref b1), (.ref b1)])) _
    refine XT.i2b Xo232.here hx rfl (hb hby at_381) rfl ?_
    show Steps p.tables e below (T229.setTop (mkF m 382 #[.val (.int sd), .val (.int xs), .val (.int ys), .val (.int ws0), .val (.int hs), .val (.long pk), .second, .val (.int sd), .unset, .unset, .unset, .unset, .unset, .unset, .unset, .unset, .unset, .unset, .unset, .unset, .unset] [(.int ((sd + (38 : Int32)).toInt8.toInt32)), (.int (38 : Int32)), (.ref b1), (.ref b1)])) _
    exact k
  obtain ⟨cc235, Ar235, q1_235, Sz235, q3_235, Hs235, G235⟩ := id V229
  have hin235 : ¬ ((38 : Int32) < 0 ∨ cc235.slots.size ≤ ((38 : Int32) : Int32).toNatClampNeg) := inb_of Sz235 ⟨(by decide), (by decide)⟩
  obtain ⟨T235, h235, X235, e235, W235, st235⟩ := stB Xo232 hx hZ e229 Ar235 hin235 (g := (mkF m 382 #[.val (.int sd), .val (.int xs), .val (.int ys), .val (.int ws0), .val (.int hs), .val (.long pk), .second, .val (.int sd), .unset, .unset, .unset, .unset, .unset, .unset, .unset, .unset, .unset, .unset, .unset, .unset, .unset] [(.int ((sd + (38 : Int32)).toInt8.toInt32)), (.int (38 : Int32)), (.ref b1), (.ref b1)])) rfl rfl (hb hby at_382)
  have N235 := Fr.snoc X235 No232 g_b1
  have V235 : Arv Z h235 b1 cA3 .byte (48 : Int32) [(.int (nar .byte (sd.toInt8.toInt32))), (.int (nar .byte ((sd + (1 : Int32)).toInt8.toInt32))), (.int (nar .byte ((sd + (2 : Int32)).toInt8.toInt32))), (.int (nar .byte ((sd + (3 : Int32)).toInt8.toInt32))), (.int (nar .byte ((sd + (4 : Int32)).toInt8.toInt32))), (.int (nar .byte ((sd + (5 : Int32)).toInt8.toInt32))), (.int (nar .byte ((sd + (6 : Int32)).toInt8.toInt32))), (.int (nar .byte ((sd + (7 : Int32)).toInt8.toInt32))), (.int (nar .byte ((sd + (8 : Int32)).toInt8.toInt32))), (.int (nar .byte ((sd + (9 : Int32)).toInt8.toInt32))), (.int (nar .byte ((sd + (10 : Int32)).toInt8.toInt32))), (.int (nar .byte ((sd + (11 : Int32)).toInt8.toInt32))), (.int (nar .byte ((sd + (12 : Int32)).toInt8.toInt32))), (.int (nar .byte ((sd + (13 : Int32)).toInt8.toInt32))), (.int (nar .byte ((sd + (14 : Int32)).toInt8.toInt32))), (.int (nar .byte ((sd + (15 : Int32)).toInt8.toInt32))), (.int (nar .byte ((sd + (16 : Int32)).toInt8.toInt32))), (.int (nar .byte ((sd + (17 : Int32)).toInt8.toInt32))), (.int (nar .byte ((sd + (18 : Int32)).toInt8.toInt32))), (.int (nar .byte ((sd + (19 : Int32)).toInt8.toInt32))), (.int (nar .byte ((sd + (20 : Int32)).toInt8.toInt32))), (.int (nar .byte ((sd + (21 : Int32)).toInt8.toInt32))), (.int (nar .byte ((sd + (22 : Int32)).toInt8.toInt32))), (.int (nar .byte ((sd + (23 : Int32)).toInt8.toInt32))), (.int (nar .byte ((sd + (24 : Int32)).toInt8.toInt32))), (.int (nar .byte ((sd + (25 : Int32)).toInt8.toInt32))), (.int (nar .byte ((sd + (26 : Int32)).toInt8.toInt32))), (.int (nar .byte ((sd + (27 : Int32)).toInt8.toInt32))), (.int (nar .byte ((sd + (28 : Int32)).toInt8.toInt32))), (.int (nar .byte ((sd + (29 : Int32)).toInt8.toInt32))), (.int (nar .byte ((sd + (30 : Int32)).toInt8.toInt32))), (.int (nar .byte ((sd + (31 : Int32)).toInt8.toInt32))), (.int (nar .byte ((sd + (32 : Int32)).toInt8.toInt32))), (.int (nar .byte ((sd + (33 : Int32)).toInt8.toInt32))), (.int (nar .byte ((sd + (34 : Int32)).toInt8.toInt32))), (.int (nar .byte ((sd + (35 : Int32)).toInt8.toInt32))), (.int (nar .byte ((sd + (36 : Int32)).toInt8.toInt32))), (.int (nar .byte ((sd + (37 : Int32)).toInt8.toInt32))), (.int (nar .byte ((sd + (38 : Int32)).toInt8.toInt32))), (.int (0 : Int32)), (.int (0 : Int32)), (.int (0 : Int32)), (.int (0 : Int32)), (.int (0 : Int32)), (.int (0 : Int32)), (.int (0 : Int32)), (.int (0 : Int32)), (.int (0 : Int32))] (.int (0 : Int32)) := Arv.set Ar235 q1_235 Sz235 q3_235 Hs235 G235 (fits_nar_byte _) W235 38 (by decide) (show 38 < 48 by decide)
  have pre237 : ∀ t, Steps p.tables e below (T235.setTop (mkF m 383 #[.val (.int sd), .val (.int xs), .val (.int ys), .val (.int ws0), .val (.int hs), .val (.long pk), .second, .val (.int sd), .unset, .unset, .unset, .unset, .unset, .unset, .unset, .unset, .unset, .unset, .unset, .unset, .unset] [(.ref b1)])) t → Steps p.tables e below (s₁.setTop (entryFrame m #[(.int sd), (.int xs), (.int ys), (.int ws0), (.int hs), (.long pk)] maxLocals)) t := fun t k => pre234 t (st235 t k)
  obtain ⟨Lo238, Xo238, No238⟩ : ∃ L, Stand p l e room_1 s m #[(.int sd), (.int xs), (.int ys), (.int ws0), (.int hs), (.long pk)] below meth c T235 L 1 48 ∧ Fr n0 L := ⟨_, X235, N235⟩
  have E239_0 : Exa Z h235 b1 "[B" := (E233_0.wr W235)
  have Z239 : n0 ≤ h235.size := (Nat.le_trans Z233 (Nat.le_of_eq W235.size.symm))
  have pre240 : ∀ t, Steps p.tables e below (T235.setTop (mkF m 392 #[.val (.int sd), .val (.int xs), .val (.int ys), .val (.int ws0), .val (.int hs), .val (.long pk), .second, .val (.int sd), .unset, .unset, .unset, .unset, .unset, .unset, .unset, .unset, .unset, .unset, .unset, .unset, .unset] [(.int ((sd + (39 : Int32)).toInt8.toInt32)), (.int (39 : Int32)), (.ref b1), (.ref b1)])) t → Steps p.tables e below (s₁.setTop (entryFrame m #[(.int sd), (.int xs), (.int ys), (.int ws0), (.int hs), (.long pk)] maxLocals)) t := by
    intro t k
    refine pre237 t ?_
    refine XS.dup Xo238.here hx rfl (hb hby at_383) rfl rfl ?_
    show Steps p.tables e below (T235.setTop (mkF m 384 #[.val (.int sd), .val (.int xs), .val (.int ys), .val (.int ws0), .val (.int hs), .val (.long pk), .second, .val (.int sd), .unset, .unset, .unset, .unset, .unset, .unset, .unset, .unset, .unset, .unset, .unset, .unset, .unset] [(.ref b1), (.ref b1)])) _
    refine XS.bipush Xo238.here hx rfl (hb hby at_384) ?_
    show Steps p.tables e below (T235.setTop (mkF m 386 #[.val (.int sd), .val (.int xs), .val (.int ys), .val (.int ws0), .val (.int hs), .val (.long pk), .second, .val (.int sd), .unset, .unset, .unset, .unset, .unset, .unset, .unset, .unset, .unset, .unset, .unset, .unset, .unset] [(.int (39 : Int32)), (.ref b1), (.ref b1)])) _
    refine XS.iload Xo238.here hx rfl (hb hby at_386) rfl ?_
    show Steps p.tables e below (T235.setTop (mkF m 388 #[.val (.int sd), .val (.int xs), .val (.int ys), .val (.int ws0), .val (.int hs), .val (.long pk), .second, .val (.int sd), .unset, .unset, .unset, .unset, .unset, .unset, .unset, .unset, .unset, .unset, .unset, .unset, .unset] [(.int sd), (.int (39 : Int32)), (.ref b1), (.ref b1)])) _
    refine XS.bipush Xo238.here hx rfl (hb hby at_388) ?_
    show Steps p.tables e below (T235.setTop (mkF m 390 #[.val (.int sd), .val (.int xs), .val (.int ys), .val (.int ws0), .val (.int hs), .val (.long pk), .second, .val (.int sd), .unset, .unset, .unset, .unset, .unset, .unset, .unset, .unset, .unset, .unset, .unset, .unset, .unset] [(.int (39 : Int32)), (.int sd), (.int (39 : Int32)), (.ref b1), (.ref b1)])) _
    refine XS.iadd Xo238.here hx rfl (hb hby at_390) rfl ?_
    show Steps p.tables e below (T235.setTop (mkF m 391 #[.val (.int sd), .val (.int xs), .val (.int ys), .val (.int ws0), .val (.int hs), .val (.long pk), .second, .val (.int sd), .unset, .unset, .unset, .unset, .unset, .unset, .unset, .unset, .unset, .unset, .unset, .unset, .unset] [(.int (sd + (39 : Int32))), (.int (39 : Int32)), (.ref b1), (.ref b1)])) _
    refine XT.i2b Xo238.here hx rfl (hb hby at_391) rfl ?_
    show Steps p.tables e below (T235.setTop (mkF m 392 #[.val (.int sd), .val (.int xs), .val (.int ys), .val (.int ws0), .val (.int hs), .val (.long pk), .second, .val (.int sd), .unset, .unset, .unset, .unset, .unset, .unset, .unset, .unset, .unset, .unset, .unset, .unset, .unset] [(.int ((sd + (39 : Int32)).toInt8.toInt32)), (.int (39 : Int32)), (.ref b1), (.ref b1)])) _
    exact k
  obtain ⟨cc241, Ar241, q1_241, Sz241, q3_241, Hs241, G241⟩ := id V235
  have hin241 : ¬ ((39 : Int32) < 0 ∨ cc241.slots.size ≤ ((39 : Int32) : Int32).toNatClampNeg) := inb_of Sz241 ⟨(by decide), (by decide)⟩
  obtain ⟨T241, h241, X241, e241, W241, st241⟩ := stB Xo238 hx hZ e235 Ar241 hin241 (g := (mkF m 392 #[.val (.int sd), .val (.int xs), .val (.int ys), .val (.int ws0), .val (.int hs), .val (.long pk), .second, .val (.int sd), .unset, .unset, .unset, .unset, .unset, .unset, .unset, .unset, .unset, .unset, .unset, .unset, .unset] [(.int ((sd + (39 : Int32)).toInt8.toInt32)), (.int (39 : Int32)), (.ref b1), (.ref b1)])) rfl rfl (hb hby at_392)
  have N241 := Fr.snoc X241 No238 g_b1
  have V241 : Arv Z h241 b1 cA3 .byte (48 : Int32) [(.int (nar .byte (sd.toInt8.toInt32))), (.int (nar .byte ((sd + (1 : Int32)).toInt8.toInt32))), (.int (nar .byte ((sd + (2 : Int32)).toInt8.toInt32))), (.int (nar .byte ((sd + (3 : Int32)).toInt8.toInt32))), (.int (nar .byte ((sd + (4 : Int32)).toInt8.toInt32))), (.int (nar .byte ((sd + (5 : Int32)).toInt8.toInt32))), (.int (nar .byte ((sd + (6 : Int32)).toInt8.toInt32))), (.int (nar .byte ((sd + (7 : Int32)).toInt8.toInt32))), (.int (nar .byte ((sd + (8 : Int32)).toInt8.toInt32))), (.int (nar .byte ((sd + (9 : Int32)).toInt8.toInt32))), (.int (nar .byte ((sd + (10 : Int32)).toInt8.toInt32))), (.int (nar .byte ((sd + (11 : Int32)).toInt8.toInt32))), (.int (nar .byte ((sd + (12 : Int32)).toInt8.toInt32))), (.int (nar .byte ((sd + (13 : Int32)).toInt8.toInt32))), (.int (nar .byte ((sd + (14 : Int32)).toInt8.toInt32))), (.int (nar .byte ((sd + (15 : Int32)).toInt8.toInt32))), (.int (nar .byte ((sd + (16 : Int32)).toInt8.toInt32))), (.int (nar .byte ((sd + (17 : Int32)).toInt8.toInt32))), (.int (nar .byte ((sd + (18 : Int32)).toInt8.toInt32))), (.int (nar .byte ((sd + (19 : Int32)).toInt8.toInt32))), (.int (nar .byte ((sd + (20 : Int32)).toInt8.toInt32))), (.int (nar .byte ((sd + (21 : Int32)).toInt8.toInt32))), (.int (nar .byte ((sd + (22 : Int32)).toInt8.toInt32))), (.int (nar .byte ((sd + (23 : Int32)).toInt8.toInt32))), (.int (nar .byte ((sd + (24 : Int32)).toInt8.toInt32))), (.int (nar .byte ((sd + (25 : Int32)).toInt8.toInt32))), (.int (nar .byte ((sd + (26 : Int32)).toInt8.toInt32))), (.int (nar .byte ((sd + (27 : Int32)).toInt8.toInt32))), (.int (nar .byte ((sd + (28 : Int32)).toInt8.toInt32))), (.int (nar .byte ((sd + (29 : Int32)).toInt8.toInt32))), (.int (nar .byte ((sd + (30 : Int32)).toInt8.toInt32))), (.int (nar .byte ((sd + (31 : Int32)).toInt8.toInt32))), (.int (nar .byte ((sd + (32 : Int32)).toInt8.toInt32))), (.int (nar .byte ((sd + (33 : Int32)).toInt8.toInt32))), (.int (nar .byte ((sd + (34 : Int32)).toInt8.toInt32))), (.int (nar .byte ((sd + (35 : Int32)).toInt8.toInt32))), (.int (nar .byte ((sd + (36 : Int32)).toInt8.toInt32))), (.int (nar .byte ((sd + (37 : Int32)).toInt8.toInt32))), (.int (nar .byte ((sd + (38 : Int32)).toInt8.toInt32))), (.int (nar .byte ((sd + (39 : Int32)).toInt8.toInt32))), (.int (0 : Int32)), (.int (0 : Int32)), (.int (0 : Int32)), (.int (0 : Int32)), (.int (0 : Int32)), (.int (0 : Int32)), (.int (0 : Int32)), (.int (0 : Int32))] (.int (0 : Int32)) := Arv.set Ar241 q1_241 Sz241 q3_241 Hs241 G241 (fits_nar_byte _) W241 39 (by decide) (show 39 < 48 by decide)
  have pre243 : ∀ t, Steps p.tables e below (T241.setTop (mkF m 393 #[.val (.int sd), .val (.int xs), .val (.int ys), .val (.int ws0), .val (.int hs), .val (.long pk), .second, .val (.int sd), .unset, .unset, .unset, .unset, .unset, .unset, .unset, .unset, .unset, .unset, .unset, .unset, .unset] [(.ref b1)])) t → Steps p.tables e below (s₁.setTop (entryFrame m #[(.int sd), (.int xs), (.int ys), (.int ws0), (.int hs), (.long pk)] maxLocals)) t := fun t k => pre240 t (st241 t k)
  obtain ⟨Lo244, Xo244, No244⟩ : ∃ L, Stand p l e room_1 s m #[(.int sd), (.int xs), (.int ys), (.int ws0), (.int hs), (.long pk)] below meth c T241 L 1 48 ∧ Fr n0 L := ⟨_, X241, N241⟩
  have E245_0 : Exa Z h241 b1 "[B" := (E239_0.wr W241)
  have Z245 : n0 ≤ h241.size := (Nat.le_trans Z239 (Nat.le_of_eq W241.size.symm))
  have pre246 : ∀ t, Steps p.tables e below (T241.setTop (mkF m 402 #[.val (.int sd), .val (.int xs), .val (.int ys), .val (.int ws0), .val (.int hs), .val (.long pk), .second, .val (.int sd), .unset, .unset, .unset, .unset, .unset, .unset, .unset, .unset, .unset, .unset, .unset, .unset, .unset] [(.int ((sd + (40 : Int32)).toInt8.toInt32)), (.int (40 : Int32)), (.ref b1), (.ref b1)])) t → Steps p.tables e below (s₁.setTop (entryFrame m #[(.int sd), (.int xs), (.int ys), (.int ws0), (.int hs), (.long pk)] maxLocals)) t := by
    intro t k
    refine pre243 t ?_
    refine XS.dup Xo244.here hx rfl (hb hby at_393) rfl rfl ?_
    show Steps p.tables e below (T241.setTop (mkF m 394 #[.val (.int sd), .val (.int xs), .val (.int ys), .val (.int ws0), .val (.int hs), .val (.long pk), .second, .val (.int sd), .unset, .unset, .unset, .unset, .unset, .unset, .unset, .unset, .unset, .unset, .unset, .unset, .unset] [(.ref b1), (.ref b1)])) _
    refine XS.bipush Xo244.here hx rfl (hb hby at_394) ?_
    show Steps p.tables e below (T241.setTop (mkF m 396 #[.val (.int sd), .val (.int xs), .val (.int ys), .val (.int ws0), .val (.int hs), .val (.long pk), .second, .val (.int sd), .unset, .unset, .unset, .unset, .unset, .unset, .unset, .unset, .unset, .unset, .unset, .unset, .unset] [(.int (40 : Int32)), (.ref b1), (.ref b1)])) _
    refine XS.iload Xo244.here hx rfl (hb hby at_396) rfl ?_
    show Steps p.tables e below (T241.setTop (mkF m 398 #[.val (.int sd), .val (.int xs), .val (.int ys), .val (.int ws0), .val (.int hs), .val (.long pk), .second, .val (.int sd), .unset, .unset, .unset, .unset, .unset, .unset, .unset, .unset, .unset, .unset, .unset, .unset, .unset] [(.int sd), (.int (40 : Int32)), (.ref b1), (.ref b1)])) _
    refine XS.bipush Xo244.here hx rfl (hb hby at_398) ?_
    show Steps p.tables e below (T241.setTop (mkF m 400 #[.val (.int sd), .val (.int xs), .val (.int ys), .val (.int ws0), .val (.int hs), .val (.long pk), .second, .val (.int sd), .unset, .unset, .unset, .unset, .unset, .unset, .unset, .unset, .unset, .unset, .unset, .unset, .unset] [(.int (40 : Int32)), (.int sd), (.int (40 : Int32)), (.ref b1), (.ref b1)])) _
    refine XS.iadd Xo244.here hx rfl (hb hby at_400) rfl ?_
    show Steps p.tables e below (T241.setTop (mkF m 401 #[.val (.int sd), .val (.int xs), .val (.int ys), .val (.int ws0), .val (.int hs), .val (.long pk), .second, .val (.int sd), .unset, .unset, .unset, .unset, .unset, .unset, .unset, .unset, .unset, .unset, .unset, .unset, .unset] [(.int (sd + (40 : Int32))), (.int (40 : Int32)), (.ref b1), (.ref b1)])) _
    refine XT.i2b Xo244.here hx rfl (hb hby at_401) rfl ?_
    show Steps p.tables e below (T241.setTop (mkF m 402 #[.val (.int sd), .val (.int xs), .val (.int ys), .val (.int ws0), .val (.int hs), .val (.long pk), .second, .val (.int sd), .unset, .unset, .unset, .unset, .unset, .unset, .unset, .unset, .unset, .unset, .unset, .unset, .unset] [(.int ((sd + (40 : Int32)).toInt8.toInt32)), (.int (40 : Int32)), (.ref b1), (.ref b1)])) _
    exact k
  obtain ⟨cc247, Ar247, q1_247, Sz247, q3_247, Hs247, G247⟩ := id V241
  have hin247 : ¬ ((40 : Int32) < 0 ∨ cc247.slots.size ≤ ((40 : Int32) : Int32).toNatClampNeg) := inb_of Sz247 ⟨(by decide), (by decide)⟩
  obtain ⟨T247, h247, X247, e247, W247, st247⟩ := stB Xo244 hx hZ e241 Ar247 hin247 (g := (mkF m 402 #[.val (.int sd), .val (.int xs), .val (.int ys), .val (.int ws0), .val (.int hs), .val (.long pk), .second, .val (.int sd), .unset, .unset, .unset, .unset, .unset, .unset, .unset, .unset, .unset, .unset, .unset, .unset, .unset] [(.int ((sd + (40 : Int32)).toInt8.toInt32)), (.int (40 : Int32)), (.ref b1), (.ref b1)])) rfl rfl (hb hby at_402)
  have N247 := Fr.snoc X247 No244 g_b1
  have V247 : Arv Z h247 b1 cA3 .byte (48 : Int32) [(.int (nar .byte (sd.toInt8.toInt32))), (.int (nar .byte ((sd + (1 : Int32)).toInt8.toInt32))), (.int (nar .byte ((sd + (2 : Int32)).toInt8.toInt32))), (.int (nar .byte ((sd + (3 : Int32)).toInt8.toInt32))), (.int (nar .byte ((sd + (4 : Int32)).toInt8.toInt32))), (.int (nar .byte ((sd + (5 : Int32)).toInt8.toInt32))), (.int (nar .byte ((sd + (6 : Int32)).toInt8.toInt32))), (.int (nar .byte ((sd + (7 : Int32)).toInt8.toInt32))), (.int (nar .byte ((sd + (8 : Int32)).toInt8.toInt32))), (.int (nar .byte ((sd + (9 : Int32)).toInt8.toInt32))), (.int (nar .byte ((sd + (10 : Int32)).toInt8.toInt32))), (.int (nar .byte ((sd + (11 : Int32)).toInt8.toInt32))), (.int (nar .byte ((sd + (12 : Int32)).toInt8.toInt32))), (.int (nar .byte ((sd + (13 : Int32)).toInt8.toInt32))), (.int (nar .byte ((sd + (14 : Int32)).toInt8.toInt32))), (.int (nar .byte ((sd + (15 : Int32)).toInt8.toInt32))), (.int (nar .byte ((sd + (16 : Int32)).toInt8.toInt32))), (.int (nar .byte ((sd + (17 : Int32)).toInt8.toInt32))), (.int (nar .byte ((sd + (18 : Int32)).toInt8.toInt32))), (.int (nar .byte ((sd + (19 : Int32)).toInt8.toInt32))), (.int (nar .byte ((sd + (20 : Int32)).toInt8.toInt32))), (.int (nar .byte ((sd + (21 : Int32)).toInt8.toInt32))), (.int (nar .byte ((sd + (22 : Int32)).toInt8.toInt32))), (.int (nar .byte ((sd + (23 : Int32)).toInt8.toInt32))), (.int (nar .byte ((sd + (24 : Int32)).toInt8.toInt32))), (.int (nar .byte ((sd + (25 : Int32)).toInt8.toInt32))), (.int (nar .byte ((sd + (26 : Int32)).toInt8.toInt32))), (.int (nar .byte ((sd + (27 : Int32)).toInt8.toInt32))), (.int (nar .byte ((sd + (28 : Int32)).toInt8.toInt32))), (.int (nar .byte ((sd + (29 : Int32)).toInt8.toInt32))), (.int (nar .byte ((sd + (30 : Int32)).toInt8.toInt32))), (.int (nar .byte ((sd + (31 : Int32)).toInt8.toInt32))), (.int (nar .byte ((sd + (32 : Int32)).toInt8.toInt32))), (.int (nar .byte ((sd + (33 : Int32)).toInt8.toInt32))), (.int (nar .byte ((sd + (34 : Int32)).toInt8.toInt32))), (.int (nar .byte ((sd + (35 : Int32)).toInt8.toInt32))), (.int (nar .byte ((sd + (36 : Int32)).toInt8.toInt32))), (.int (nar .byte ((sd + (37 : Int32)).toInt8.toInt32))), (.int (nar .byte ((sd + (38 : Int32)).toInt8.toInt32))), (.int (nar .byte ((sd + (39 : Int32)).toInt8.toInt32))), (.int (nar .byte ((sd + (40 : Int32)).toInt8.toInt32))), (.int (0 : Int32)), (.int (0 : Int32)), (.int (0 : Int32)), (.int (0 : Int32)), (.int (0 : Int32)), (.int (0 : Int32)), (.int (0 : Int32))] (.int (0 : Int32)) := Arv.set Ar247 q1_247 Sz247 q3_247 Hs247 G247 (fits_nar_byte _) W247 40 (by decide) (show 40 < 48 by decide)
  have pre249 : ∀ t, Steps p.tables e below (T247.setTop (mkF m 403 #[.val (.int sd), .val (.int xs), .val (.int ys), .val (.int ws0), .val (.int hs), .val (.long pk), .second, .val (.int sd), .unset, .unset, .unset, .unset, .unset, .unset, .unset, .unset, .unset, .unset, .unset, .unset, .unset] [(.ref b1)])) t → Steps p.tables e below (s₁.setTop (entryFrame m #[(.int sd), (.int xs), (.int ys), (.int ws0), (.int hs), (.long pk)] maxLocals)) t := fun t k => pre246 t (st247 t k)
  obtain ⟨Lo250, Xo250, No250⟩ : ∃ L, Stand p l e room_1 s m #[(.int sd), (.int xs), (.int ys), (.int ws0), (.int hs), (.long pk)] below meth c T247 L 1 48 ∧ Fr n0 L := ⟨_, X247, N247⟩
  have E251_0 : Exa Z h247 b1 "[B" := (E245_0.wr W247)
  have Z251 : n0 ≤ h247.size := (Nat.le_trans Z245 (Nat.le_of_eq W247.size.symm))
  have pre252 : ∀ t, Steps p.tables e below (T247.setTop (mkF m 412 #[.val (.int sd), .val (.int xs), .val (.int ys), .val (.int ws0), .val (.int hs), .val (.long pk), .second, .val (.int sd), .unset, .unset, .unset, .unset, .unset, .unset, .unset, .unset, .unset, .unset, .unset, .unset, .unset] [(.int ((sd + (41 : Int32)).toInt8.toInt32)), (.int (41 : Int32)), (.ref b1), (.ref b1)])) t → Steps p.tables e below (s₁.setTop (entryFrame m #[(.int sd), (.int xs), (.int ys), (.int ws0), (.int hs), (.long pk)] maxLocals)) t := by
    intro t k
    refine pre249 t ?_
    refine XS.dup Xo250.here hx rfl (hb hby at_403) rfl rfl ?_
    show Steps p.tables e below (T247.setTop (mkF m 404 #[.val (.int sd), .val (.int xs), .val (.int ys), .val (.int ws0), .val (.int hs), .val (.long pk), .second, .val (.int sd), .unset, .unset, .unset, .unset, .unset, .unset, .unset, .unset, .unset, .unset, .unset, .unset, .unset] [(.ref b1), (.ref b1)])) _
    refine XS.bipush Xo250.here hx rfl (hb hby at_404) ?_
    show Steps p.tables e below (T247.setTop (mkF m 406 #[.val (.int sd), .val (.int xs), .val (.int ys), .val (.int ws0), .val (.int hs), .val (.long pk), .second, .val (.int sd), .unset, .unset, .unset, .unset, .unset, .unset, .unset, .unset, .unset, .unset, .unset, .unset, .unset] [(.int (41 : Int32)), (.ref b1), (.ref b1)])) _
    refine XS.iload Xo250.here hx rfl (hb hby at_406) rfl ?_
    show Steps p.tables e below (T247.setTop (mkF m 408 #[.val (.int sd), .val (.int xs), .val (.int ys), .val (.int ws0), .val (.int hs), .val (.long pk), .second, .val (.int sd), .unset, .unset, .unset, .unset, .unset, .unset, .unset, .unset, .unset, .unset, .unset, .unset, .unset] [(.int sd), (.int (41 : Int32)), (.ref b1), (.ref b1)])) _
    refine XS.bipush Xo250.here hx rfl (hb hby at_408) ?_
    show Steps p.tables e below (T247.setTop (mkF m 410 #[.val (.int sd), .val (.int xs), .val (.int ys), .val (.int ws0), .val (.int hs), .val (.long pk), .second, .val (.int sd), .unset, .unset, .unset, .unset, .unset, .unset, .unset, .unset, .unset, .unset, .unset, .unset, .unset] [(.int (41 : Int32)), (.int sd), (.int (41 : Int32)), (.ref b1), (.ref b1)])) _
    refine XS.iadd Xo250.here hx rfl (hb hby at_410) rfl ?_
    show Steps p.tables e below (T247.setTop (mkF m 411 #[.val (.int sd), .val (.int xs), .val (.int ys), .val (.int ws0), .val (.int hs), .val (.long pk), .second, .val (.int sd), .unset, .unset, .unset, .unset, .unset, .unset, .unset, .unset, .unset, .unset, .unset, .unset, .unset] [(.int (sd + (41 : Int32))), (.int (41 : Int32)), (.ref b1), (.ref b1)])) _
    refine XT.i2b Xo250.here hx rfl (hb hby at_411) rfl ?_
    show Steps p.tables e below (T247.setTop (mkF m 412 #[.val (.int sd), .val (.int xs), .val (.int ys), .val (.int ws0), .val (.int hs), .val (.long pk), .second, .val (.int sd), .unset, .unset, .unset, .unset, .unset, .unset, .unset, .unset, .unset, .unset, .unset, .unset, .unset] [(.int ((sd + (41 : Int32)).toInt8.toInt32)), (.int (41 : Int32)), (.ref b1), (.ref b1)])) _
    exact k
  obtain ⟨cc253, Ar253, q1_253, Sz253, q3_253, Hs253, G253⟩ := id V247
  have hin253 : ¬ ((41 : Int32) < 0 ∨ cc253.slots.size ≤ ((41 : Int32) : Int32).toNatClampNeg) := inb_of Sz253 ⟨(by decide), (by decide)⟩
  obtain ⟨T253, h253, X253, e253, W253, st253⟩ := stB Xo250 hx hZ e247 Ar253 hin253 (g := (mkF m 412 #[.val (.int sd), .val (.int xs), .val (.int ys), .val (.int ws0), .val (.int hs), .val (.long pk), .second, .val (.int sd), .unset, .unset, .unset, .unset, .unset, .unset, .unset, .unset, .unset, .unset, .unset, .unset, .unset] [(.int ((sd + (41 : Int32)).toInt8.toInt32)), (.int (41 : Int32)), (.ref b1), (.ref b1)])) rfl rfl (hb hby at_412)
  have N253 := Fr.snoc X253 No250 g_b1
  have V253 : Arv Z h253 b1 cA3 .byte (48 : Int32) [(.int (nar .byte (sd.toInt8.toInt32))), (.int (nar .byte ((sd + (1 : Int32)).toInt8.toInt32))), (.int (nar .byte ((sd + (2 : Int32)).toInt8.toInt32))), (.int (nar .byte ((sd + (3 : Int32)).toInt8.toInt32))), (.int (nar .byte ((sd + (4 : Int32)).toInt8.toInt32))), (.int (nar .byte ((sd + (5 : Int32)).toInt8.toInt32))), (.int (nar .byte ((sd + (6 : Int32)).toInt8.toInt32))), (.int (nar .byte ((sd + (7 : Int32)).toInt8.toInt32))), (.int (nar .byte ((sd + (8 : Int32)).toInt8.toInt32))), (.int (nar .byte ((sd + (9 : Int32)).toInt8.toInt32))), (.int (nar .byte ((sd + (10 : Int32)).toInt8.toInt32))), (.int (nar .byte ((sd + (11 : Int32)).toInt8.toInt32))), (.int (nar .byte ((sd + (12 : Int32)).toInt8.toInt32))), (.int (nar .byte ((sd + (13 : Int32)).toInt8.toInt32))), (.int (nar .byte ((sd + (14 : Int32)).toInt8.toInt32))), (.int (nar .byte ((sd + (15 : Int32)).toInt8.toInt32))), (.int (nar .byte ((sd + (16 : Int32)).toInt8.toInt32))), (.int (nar .byte ((sd + (17 : Int32)).toInt8.toInt32))), (.int (nar .byte ((sd + (18 : Int32)).toInt8.toInt32))), (.int (nar .byte ((sd + (19 : Int32)).toInt8.toInt32))), (.int (nar .byte ((sd + (20 : Int32)).toInt8.toInt32))), (.int (nar .byte ((sd + (21 : Int32)).toInt8.toInt32))), (.int (nar .byte ((sd + (22 : Int32)).toInt8.toInt32))), (.int (nar .byte ((sd + (23 : Int32)).toInt8.toInt32))), (.int (nar .byte ((sd + (24 : Int32)).toInt8.toInt32))), (.int (nar .byte ((sd + (25 : Int32)).toInt8.toInt32))), (.int (nar .byte ((sd + (26 : Int32)).toInt8.toInt32))), (.int (nar .byte ((sd + (27 : Int32)).toInt8.toInt32))), (.int (nar .byte ((sd + (28 : Int32)).toInt8.toInt32))), (.int (nar .byte ((sd + (29 : Int32)).toInt8.toInt32))), (.int (nar .byte ((sd + (30 : Int32)).toInt8.toInt32))), (.int (nar .byte ((sd + (31 : Int32)).toInt8.toInt32))), (.int (nar .byte ((sd + (32 : Int32)).toInt8.toInt32))), (.int (nar .byte ((sd + (33 : Int32)).toInt8.toInt32))), (.int (nar .byte ((sd + (34 : Int32)).toInt8.toInt32))), (.int (nar .byte ((sd + (35 : Int32)).toInt8.toInt32))), (.int (nar .byte ((sd + (36 : Int32)).toInt8.toInt32))), (.int (nar .byte ((sd + (37 : Int32)).toInt8.toInt32))), (.int (nar .byte ((sd + (38 : Int32)).toInt8.toInt32))), (.int (nar .byte ((sd + (39 : Int32)).toInt8.toInt32))), (.int (nar .byte ((sd + (40 : Int32)).toInt8.toInt32))), (.int (nar .byte ((sd + (41 : Int32)).toInt8.toInt32))), (.int (0 : Int32)), (.int (0 : Int32)), (.int (0 : Int32)), (.int (0 : Int32)), (.int (0 : Int32)), (.int (0 : Int32))] (.int (0 : Int32)) := Arv.set Ar253 q1_253 Sz253 q3_253 Hs253 G253 (fits_nar_byte _) W253 41 (by decide) (show 41 < 48 by decide)
  have pre255 : ∀ t, Steps p.tables e below (T253.setTop (mkF m 413 #[.val (.int sd), .val (.int xs), .val (.int ys), .val (.int ws0), .val (.int hs), .val (.long pk), .second, .val (.int sd), .unset, .unset, .unset, .unset, .unset, .unset, .unset, .unset, .unset, .unset, .unset, .unset, .unset] [(.ref b1)])) t → Steps p.tables e below (s₁.setTop (entryFrame m #[(.int sd), (.int xs), (.int ys), (.int ws0), (.int hs), (.long pk)] maxLocals)) t := fun t k => pre252 t (st253 t k)
  obtain ⟨Lo256, Xo256, No256⟩ : ∃ L, Stand p l e room_1 s m #[(.int sd), (.int xs), (.int ys), (.int ws0), (.int hs), (.long pk)] below meth c T253 L 1 48 ∧ Fr n0 L := ⟨_, X253, N253⟩
  have E257_0 : Exa Z h253 b1 "[B" := (E251_0.wr W253)
  have Z257 : n0 ≤ h253.size := (Nat.le_trans Z251 (Nat.le_of_eq W253.size.symm))
  have pre258 : ∀ t, Steps p.tables e below (T253.setTop (mkF m 422 #[.val (.int sd), .val (.int xs), .val (.int ys), .val (.int ws0), .val (.int hs), .val (.long pk), .second, .val (.int sd), .unset, .unset, .unset, .unset, .unset, .unset, .unset, .unset, .unset, .unset, .unset, .unset, .unset] [(.int ((sd + (42 : Int32)).toInt8.toInt32)), (.int (42 : Int32)), (.ref b1), (.ref b1)])) t → Steps p.tables e below (s₁.setTop (entryFrame m #[(.int sd), (.int xs), (.int ys), (.int ws0), (.int hs), (.long pk)] maxLocals)) t := by
    intro t k
    refine pre255 t ?_
    refine XS.dup Xo256.here hx rfl (hb hby at_413) rfl rfl ?_
    show Steps p.tables e below (T253.setTop (mkF m 414 #[.val (.int sd), .val (.int xs), .val (.int ys), .val (.int ws0), .val (.int hs), .val (.long pk), .second, .val (.int sd), .unset, .unset, .unset, .unset, .unset, .unset, .unset, .unset, .unset, .unset, .unset, .unset, .unset] [(.ref b1), (.ref b1)])) _
    refine XS.bipush Xo256.here hx rfl (hb hby at_414) ?_
    show Steps p.tables e below (T253.setTop (mkF m 416 #[.val (.int sd), .val (.int xs), .val (.int ys), .val (.int ws0), .val (.int hs), .val (.long pk), .second, .val (.int sd), .unset, .unset, .unset, .unset, .unset, .unset, .unset, .unset, .unset, .unset, .unset, .unset, .unset] [(.int (42 : Int32)), (.ref b1), (.ref b1)])) _
    refine XS.iload Xo256.here hx rfl (hb hby at_416) rfl ?_
    show Steps p.tables e below (T253.setTop (mkF m 418 #[.val (.int sd), .val (.int xs), .val (.int ys), .val (.int ws0), .val (.int hs), .val (.long pk), .second, .val (.int sd), .unset, .unset, .unset, .unset, .unset, .unset, .unset, .unset, .unset, .unset, .unset, .unset, .unset] [(.int sd), (.int (42 : Int32)), (.ref b1), (.ref b1)])) _
    refine XS.bipush Xo256.here hx rfl (hb hby at_418) ?_
    show Steps p.tables e below (T253.setTop (mkF m 420 #[.val (.int sd), .val (.int xs), .val (.int ys), .val (.int ws0), .val (.int hs), .val (.long pk), .second, .val (.int sd), .unset, .unset, .unset, .unset, .unset, .unset, .unset, .unset, .unset, .unset, .unset, .unset, .unset] [(.int (42 : Int32)), (.int sd), (.int (42 : Int32)), (.ref b1), (.ref b1)])) _
    refine XS.iadd Xo256.here hx rfl (hb hby at_420) rfl ?_
    show Steps p.tables e below (T253.setTop (mkF m 421 #[.val (.int sd), .val (.int xs), .val (.int ys), .val (.int ws0), .val (.int hs), .val (.long pk), .second, .val (.int sd), .unset, .unset, .unset, .unset, .unset, .unset, .unset, .unset, .unset, .unset, .unset, .unset, .unset] [(.int (sd + (42 : Int32))), (.int (42 : Int32)), (.ref b1), (.ref b1)])) _
    refine XT.i2b Xo256.here hx rfl (hb hby at_421) rfl ?_
    show Steps p.tables e below (T253.setTop (mkF m 422 #[.val (.int sd), .val (.int xs), .val (.int ys), .val (.int ws0), .val (.int hs), .val (.long pk), .second, .val (.int sd), .unset, .unset, .unset, .unset, .unset, .unset, .unset, .unset, .unset, .unset, .unset, .unset, .unset] [(.int ((sd + (42 : Int32)).toInt8.toInt32)), (.int (42 : Int32)), (.ref b1), (.ref b1)])) _
    exact k
  obtain ⟨cc259, Ar259, q1_259, Sz259, q3_259, Hs259, G259⟩ := id V253
  have hin259 : ¬ ((42 : Int32) < 0 ∨ cc259.slots.size ≤ ((42 : Int32) : Int32).toNatClampNeg) := inb_of Sz259 ⟨(by decide), (by decide)⟩
  obtain ⟨T259, h259, X259, e259, W259, st259⟩ := stB Xo256 hx hZ e253 Ar259 hin259 (g := (mkF m 422 #[.val (.int sd), .val (.int xs), .val (.int ys), .val (.int ws0), .val (.int hs), .val (.long pk), .second, .val (.int sd), .unset, .unset, .unset, .unset, .unset, .unset, .unset, .unset, .unset, .unset, .unset, .unset, .unset] [(.int ((sd + (42 : Int32)).toInt8.toInt32)), (.int (42 : Int32)), (.ref b1), (.ref b1)])) rfl rfl (hb hby at_422)
  have N259 := Fr.snoc X259 No256 g_b1
  have V259 : Arv Z h259 b1 cA3 .byte (48 : Int32) [(.int (nar .byte (sd.toInt8.toInt32))), (.int (nar .byte ((sd + (1 : Int32)).toInt8.toInt32))), (.int (nar .byte ((sd + (2 : Int32)).toInt8.toInt32))), (.int (nar .byte ((sd + (3 : Int32)).toInt8.toInt32))), (.int (nar .byte ((sd + (4 : Int32)).toInt8.toInt32))), (.int (nar .byte ((sd + (5 : Int32)).toInt8.toInt32))), (.int (nar .byte ((sd + (6 : Int32)).toInt8.toInt32))), (.int (nar .byte ((sd + (7 : Int32)).toInt8.toInt32))), (.int (nar .byte ((sd + (8 : Int32)).toInt8.toInt32))), (.int (nar .byte ((sd + (9 : Int32)).toInt8.toInt32))), (.int (nar .byte ((sd + (10 : Int32)).toInt8.toInt32))), (.int (nar .byte ((sd + (11 : Int32)).toInt8.toInt32))), (.int (nar .byte ((sd + (12 : Int32)).toInt8.toInt32))), (.int (nar .byte ((sd + (13 : Int32)).toInt8.toInt32))), (.int (nar .byte ((sd + (14 : Int32)).toInt8.toInt32))), (.int (nar .byte ((sd + (15 : Int32)).toInt8.toInt32))), (.int (nar .byte ((sd + (16 : Int32)).toInt8.toInt32))), (.int (nar .byte ((sd + (17 : Int32)).toInt8.toInt32))), (.int (nar .byte ((sd + (18 : Int32)).toInt8.toInt32))), (.int (nar .byte ((sd + (19 : Int32)).toInt8.toInt32))), (.int (nar .byte ((sd + (20 : Int32)).toInt8.toInt32))), (.int (nar .byte ((sd + (21 : Int32)).toInt8.toInt32))), (.int (nar .byte ((sd + (22 : Int32)).toInt8.toInt32))), (.int (nar .byte ((sd + (23 : Int32)).toInt8.toInt32))), (.int (nar .byte ((sd + (24 : Int32)).toInt8.toInt32))), (.int (nar .byte ((sd + (25 : Int32)).toInt8.toInt32))), (.int (nar .byte ((sd + (26 : Int32)).toInt8.toInt32))), (.int (nar .byte ((sd + (27 : Int32)).toInt8.toInt32))), (.int (nar .byte ((sd + (28 : Int32)).toInt8.toInt32))), (.int (nar .byte ((sd + (29 : Int32)).toInt8.toInt32))), (.int (nar .byte ((sd + (30 : Int32)).toInt8.toInt32))), (.int (nar .byte ((sd + (31 : Int32)).toInt8.toInt32))), (.int (nar .byte ((sd + (32 : Int32)).toInt8.toInt32))), (.int (nar .byte ((sd + (33 : Int32)).toInt8.toInt32))), (.int (nar .byte ((sd + (34 : Int32)).toInt8.toInt32))), (.int (nar .byte ((sd + (35 : Int32)).toInt8.toInt32))), (.int (nar .byte ((sd + (36 : Int32)).toInt8.toInt32))), (.int (nar .byte ((sd + (37 : Int32)).toInt8.toInt32))), (.int (nar .byte ((sd + (38 : Int32)).toInt8.toInt32))), (.int (nar .byte ((sd + (39 : Int32)).toInt8.toInt32))), (.int (nar .byte ((sd + (40 : Int32)).toInt8.toInt32))), (.int (nar .byte ((sd + (41 : Int32)).toInt8.toInt32))), (.int (nar .byte ((sd + (42 : Int32)).toInt8.toInt32))), (.int (0 : Int32)), (.int (0 : Int32)), (.int (0 : Int32)), (.int (0 : Int32)), (.int (0 : Int32))] (.int (0 : Int32)) := Arv.set Ar259 q1_259 Sz259 q3_259 Hs259 G259 (fits_nar_byte _) W259 42 (by decide) (show 42 < 48 by decide)
  have pre261 : ∀ t, Steps p.tables e below (T259.setTop (mkF m 423 #[.val (.int sd), .val (.int xs), .val (.int ys), .val (.int ws0), .val (.int hs), .val (.long pk), .second, .val (.int sd), .unset, .unset, .unset, .unset, .unset, .unset, .unset, .unset, .unset, .unset, .unset, .unset, .unset] [(.ref b1)])) t → Steps p.tables e below (s₁.setTop (entryFrame m #[(.int sd), (.int xs), (.int ys), (.int ws0), (.int hs), (.long pk)] maxLocals)) t := fun t k => pre258 t (st259 t k)
  obtain ⟨Lo262, Xo262, No262⟩ : ∃ L, Stand p l e room_1 s m #[(.int sd), (.int xs), (.int ys), (.int ws0), (.int hs), (.long pk)] below meth c T259 L 1 48 ∧ Fr n0 L := ⟨_, X259, N259⟩
  have E263_0 : Exa Z h259 b1 "[B" := (E257_0.wr W259)
  have Z263 : n0 ≤ h259.size := (Nat.le_trans Z257 (Nat.le_of_eq W259.size.symm))
  have pre264 : ∀ t, Steps p.tables e below (T259.setTop (mkF m 432 #[.val (.int sd), .val (.int xs), .val (.int ys), .val (.int ws0), .val (.int hs), .val (.long pk), .second, .val (.int sd), .unset, .unset, .unset, .unset, .unset, .unset, .unset, .unset, .unset, .unset, .unset, .unset, .unset] [(.int ((sd + (43 : Int32)).toInt8.toInt32)), (.int (43 : Int32)), (.ref b1), (.ref b1)])) t → Steps p.tables e below (s₁.setTop (entryFrame m #[(.int sd), (.int xs), (.int ys), (.int ws0), (.int hs), (.long pk)] maxLocals)) t := by
    intro t k
    refine pre261 t ?_
    refine XS.dup Xo262.here hx rfl (hb hby at_423) rfl rfl ?_
    show Steps p.tables e below (T259.setTop (mkF m 424 #[.val (.int sd), .val (.int xs), .val (.int ys), .val (.int ws0), .val (.int hs), .val (.long pk), .second, .val (.int sd), .unset, .unset, .unset, .unset, .unset, .unset, .unset, .unset, .unset, .unset, .unset, .unset, .unset] [(.ref b1), (.ref b1)])) _
    refine XS.bipush Xo262.here hx rfl (hb hby at_424) ?_
    show Steps p.tables e below (T259.setTop (mkF m 426 #[.val (.int sd), .val (.int xs), .val (.int ys), .val (.int ws0), .val (.int hs), .val (.long pk), .second, .val (.int sd), .unset, .unset, .unset, .unset, .unset, .unset, .unset, .unset, .unset, .unset, .unset, .unset, .unset] [(.int (43 : Int32)), (.ref b1), (.ref b1)])) _
    refine XS.iload Xo262.here hx rfl (hb hby at_426) rfl ?_
    show Steps p.tables e below (T259.setTop (mkF m 428 #[.val (.int sd), .val (.int xs), .val (.int ys), .val (.int ws0), .val (.int hs), .val (.long pk), .second, .val (.int sd), .unset, .unset, .unset, .unset, .unset, .unset, .unset, .unset, .unset, .unset, .unset, .unset, .unset] [(.int sd), (.int (43 : Int32)), (.ref b1), (.ref b1)])) _
    refine XS.bipush Xo262.here hx rfl (hb hby at_428) ?_
    show Steps p.tables e below (T259.setTop (mkF m 430 #[.val (.int sd), .val (.int xs), .val (.int ys), .val (.int ws0), .val (.int hs), .val (.long pk), .second, .val (.int sd), .unset, .unset, .unset, .unset, .unset, .unset, .unset, .unset, .unset, .unset, .unset, .unset, .unset] [(.int (43 : Int32)), (.int sd), (.int (43 : Int32)), (.ref b1), (.ref b1)])) _
    refine XS.iadd Xo262.here hx rfl (hb hby at_430) rfl ?_
    show Steps p.tables e below (T259.setTop (mkF m 431 #[.val (.int sd), .val (.int xs), .val (.int ys), .val (.int ws0), .val (.int hs), .val (.long pk), .second, .val (.int sd), .unset, .unset, .unset, .unset, .unset, .unset, .unset, .unset, .unset, .unset, .unset, .unset, .unset] [(.int (sd + (43 : Int32))), (.int (43 : Int32)), (.ref b1), (.ref b1)])) _
    refine XT.i2b Xo262.here hx rfl (hb hby at_431) rfl ?_
    show Steps p.tables e below (T259.setTop (mkF m 432 #[.val (.int sd), .val (.int xs), .val (.int ys), .val (.int ws0), .val (.int hs), .val (.long pk), .second, .val (.int sd), .unset, .unset, .unset, .unset, .unset, .unset, .unset, .unset, .unset, .unset, .unset, .unset, .unset] [(.int ((sd + (43 : Int32)).toInt8.toInt32)), (.int (43 : Int32)), (.ref b1), (.ref b1)])) _
    exact k
  obtain ⟨cc265, Ar265, q1_265, Sz265, q3_265, Hs265, G265⟩ := id V259
  have hin265 : ¬ ((43 : Int32) < 0 ∨ cc265.slots.size ≤ ((43 : Int32) : Int32).toNatClampNeg) := inb_of Sz265 ⟨(by decide), (by decide)⟩
  obtain ⟨T265, h265, X265, e265, W265, st265⟩ := stB Xo262 hx hZ e259 Ar265 hin265 (g := (mkF m 432 #[.val (.int sd), .val (.int xs), .val (.int ys), .val (.int ws0), .val (.int hs), .val (.long pk), .second, .val (.int sd), .unset, .unset, .unset, .unset, .unset, .unset, .unset, .unset, .unset, .unset, .unset, .unset, .unset] [(.int ((sd + (43 : Int32)).toInt8.toInt32)), (.int (43 : Int32)), (.ref b1), (.ref b1)])) rfl rfl (hb hby at_432)
  have N265 := Fr.snoc X265 No262 g_b1
  have V265 : Arv Z h265 b1 cA3 .byte (48 : Int32) [(.int (nar .byte (sd.toInt8.toInt32))), (.int (nar .byte ((sd + (1 : Int32)).toInt8.toInt32))), (.int (nar .byte ((sd + (2 : Int32)).toInt8.toInt32))), (.int (nar .byte ((sd + (3 : Int32)).toInt8.toInt32))), (.int (nar .byte ((sd + (4 : Int32)).toInt8.toInt32))), (.int (nar .byte ((sd + (5 : Int32)).toInt8.toInt32))), (.int (nar .byte ((sd + (6 : Int32)).toInt8.toInt32))), (.int (nar .byte ((sd + (7 : Int32)).toInt8.toInt32))), (.int (nar .byte ((sd + (8 : Int32)).toInt8.toInt32))), (.int (nar .byte ((sd + (9 : Int32)).toInt8.toInt32))), (.int (nar .byte ((sd + (10 : Int32)).toInt8.toInt32))), (.int (nar .byte ((sd + (11 : Int32)).toInt8.toInt32))), (.int (nar .byte ((sd + (12 : Int32)).toInt8.toInt32))), (.int (nar .byte ((sd + (13 : Int32)).toInt8.toInt32))), (.int (nar .byte ((sd + (14 : Int32)).toInt8.toInt32))), (.int (nar .byte ((sd + (15 : Int32)).toInt8.toInt32))), (.int (nar .byte ((sd + (16 : Int32)).toInt8.toInt32))), (.int (nar .byte ((sd + (17 : Int32)).toInt8.toInt32))), (.int (nar .byte ((sd + (18 : Int32)).toInt8.toInt32))), (.int (nar .byte ((sd + (19 : Int32)).toInt8.toInt32))), (.int (nar .byte ((sd + (20 : Int32)).toInt8.toInt32))), (.int (nar .byte ((sd + (21 : Int32)).toInt8.toInt32))), (.int (nar .byte ((sd + (22 : Int32)).toInt8.toInt32))), (.int (nar .byte ((sd + (23 : Int32)).toInt8.toInt32))), (.int (nar .byte ((sd + (24 : Int32)).toInt8.toInt32))), (.int (nar .byte ((sd + (25 : Int32)).toInt8.toInt32))), (.int (nar .byte ((sd + (26 : Int32)).toInt8.toInt32))), (.int (nar .byte ((sd + (27 : Int32)).toInt8.toInt32))), (.int (nar .byte ((sd + (28 : Int32)).toInt8.toInt32))), (.int (nar .byte ((sd + (29 : Int32)).toInt8.toInt32))), (.int (nar .byte ((sd + (30 : Int32)).toInt8.toInt32))), (.int (nar .byte ((sd + (31 : Int32)).toInt8.toInt32))), (.int (nar .byte ((sd + (32 : Int32)).toInt8.toInt32))), (.int (nar .byte ((sd + (33 : Int32)).toInt8.toInt32))), (.int (nar .byte ((sd + (34 : Int32)).toInt8.toInt32))), (.int (nar .byte ((sd + (35 : Int32)).toInt8.toInt32))), (.int (nar .byte ((sd + (36 : Int32)).toInt8.toInt32))), (.int (nar .byte ((sd + (37 : Int32)).toInt8.toInt32))), (.int (nar .byte ((sd + (38 : Int32)).toInt8.toInt32))), (.int (nar .byte ((sd + (39 : Int32)).toInt8.toInt32))), (.int (nar .byte ((sd + (40 : Int32)).toInt8.toInt32))), (.int (nar .byte ((sd + (41 : Int32)).toInt8.toInt32))), (.int (nar .byte ((sd + (42 : Int32)).toInt8.toInt32))), (.int (nar .byte ((sd + (43 : Int32)).toInt8.toInt32))), (.int (0 : Int32)), (.int (0 : Int32)), (.int (0 : Int32)), (.int (0 : Int32))] (.int (0 : Int32)) := Arv.set Ar265 q1_265 Sz265 q3_265 Hs265 G265 (fits_nar_byte _) W265 43 (by decide) (show 43 < 48 by decide)
  have pre267 : ∀ t, Steps p.tables e below (T265.setTop (mkF m 433 #[.val (.int sd), .val (.int xs), .val (.int ys), .val (.int ws0), .val (.int hs), .val (.long pk), .second, .val (.int sd), .unset, .unset, .unset, .unset, .unset, .unset, .unset, .unset, .unset, .unset, .unset, .unset, .unset] [(.ref b1)])) t → Steps p.tables e below (s₁.setTop (entryFrame m #[(.int sd), (.int xs), (.int ys), (.int ws0), (.int hs), (.long pk)] maxLocals)) t := fun t k => pre264 t (st265 t k)
  obtain ⟨Lo268, Xo268, No268⟩ : ∃ L, Stand p l e room_1 s m #[(.int sd), (.int xs), (.int ys), (.int ws0), (.int hs), (.long pk)] below meth c T265 L 1 48 ∧ Fr n0 L := ⟨_, X265, N265⟩
  have E269_0 : Exa Z h265 b1 "[B" := (E263_0.wr W265)
  have Z269 : n0 ≤ h265.size := (Nat.le_trans Z263 (Nat.le_of_eq W265.size.symm))
  have pre270 : ∀ t, Steps p.tables e below (T265.setTop (mkF m 442 #[.val (.int sd), .val (.int xs), .val (.int ys), .val (.int ws0), .val (.int hs), .val (.long pk), .second, .val (.int sd), .unset, .unset, .unset, .unset, .unset, .unset, .unset, .unset, .unset, .unset, .unset, .unset, .unset] [(.int ((sd + (44 : Int32)).toInt8.toInt32)), (.int (44 : Int32)), (.ref b1), (.ref b1)])) t → Steps p.tables e below (s₁.setTop (entryFrame m #[(.int sd), (.int xs), (.int ys), (.int ws0), (.int hs), (.long pk)] maxLocals)) t := by
    intro t k
    refine pre267 t ?_
    refine XS.dup Xo268.here hx rfl (hb hby at_433) rfl rfl ?_
    show Steps p.tables e below (T265.setTop (mkF m 434 #[.val (.int sd), .val (.int xs), .val (.int ys), .val (.int ws0), .val (.int hs), .val (.long pk), .second, .val (.int sd), .unset, .unset, .unset, .unset, .unset, .unset, .unset, .unset, .unset, .unset, .unset, .unset, .unset] [(.ref b1), (.ref b1)])) _
    refine XS.bipush Xo268.here hx rfl (hb hby at_434) ?_
    show Steps p.tables e below (T265.setTop (mkF m 436 #[.val (.int sd), .val (.int xs), .val (.int ys), .val (.int ws0), .val (.int hs), .val (.long pk), .second, .val (.int sd), .unset, .unset, .unset, .unset, .unset, .unset, .unset, .unset, .unset, .unset, .unset, .unset, .unset] [(.int (44 : Int32)), (.ref b1), (.ref b1)])) _
    refine XS.iload Xo268.here hx rfl (hb hby at_436) rfl ?_
    show Steps p.tables e below (T265.setTop (mkF m 438 #[.val (.int sd), .val (.int xs), .val (.int ys), .val (.int ws0), .val (.int hs), .val (.long pk), .second, .val (.int sd), .unset, .unset, .unset, .unset, .unset, .unset, .unset, .unset, .unset, .unset, .unset, .unset, .unset] [(.int sd), (.int (44 : Int32)), (.ref b1), (.ref b1)])) _
    refine XS.bipush Xo268.here hx rfl (hb hby at_438) ?_
    show Steps p.tables e below (T265.setTop (mkF m 440 #[.val (.int sd), .val (.int xs), .val (.int ys), .val (.int ws0), .val (.int hs), .val (.long pk), .second, .val (.int sd), .unset, .unset, .unset, .unset, .unset, .unset, .unset, .unset, .unset, .unset, .unset, .unset, .unset] [(.int (44 : Int32)), (.int sd), (.int (44 : Int32)), (.ref b1), (.ref b1)])) _
    refine XS.iadd Xo268.here hx rfl (hb hby at_440) rfl ?_
    show Steps p.tables e below (T265.setTop (mkF m 441 #[.val (.int sd), .val (.int xs), .val (.int ys), .val (.int ws0), .val (.int hs), .val (.long pk), .second, .val (.int sd), .unset, .unset, .unset, .unset, .unset, .unset, .unset, .unset, .unset, .unset, .unset, .unset, .unset] [(.int (sd + (44 : Int32))), (.int (44 : Int32)), (.ref b1), (.ref b1)])) _
    refine XT.i2b Xo268.here hx rfl (hb hby at_441) rfl ?_
    show Steps p.tables e below (T265.setTop (mkF m 442 #[.val (.int sd), .val (.int xs), .val (.int ys), .val (.int ws0), .val (.int hs), .val (.long pk), .second, .val (.int sd), .unset, .unset, .unset, .unset, .unset, .unset, .unset, .unset, .unset, .unset, .unset, .unset, .unset] [(.int ((sd + (44 : Int32)).toInt8.toInt32)), (.int (44 : Int32)), (.ref b1), (.ref b1)])) _
    exact k
  obtain ⟨cc271, Ar271, q1_271, Sz271, q3_271, Hs271, G271⟩ := id V265
  have hin271 : ¬ ((44 : Int32) < 0 ∨ cc271.slots.size ≤ ((44 : Int32) : Int32).toNatClampNeg) := inb_of Sz271 ⟨(by decide), (by decide)⟩
  obtain ⟨T271, h271, X271, e271, W271, st271⟩ := stB Xo268 hx hZ e265 Ar271 hin271 (g := (mkF m 442 #[.val (.int sd), .val (.int xs), .val (.int ys), .val (.int ws0), .val (.int hs), .val (.long pk), .second, .val (.int sd), .unset, .unset, .unset, .unset, .unset, .unset, .unset, .unset, .unset, .unset, .unset, .unset, .unset] [(.int ((sd + (44 : Int32)).toInt8.toInt32)), (.int (44 : Int32)), (.ref b1), (.ref b1)])) rfl rfl (hb hby at_442)
  have N271 := Fr.snoc X271 No268 g_b1
  have V271 : Arv Z h271 b1 cA3 .byte (48 : Int32) [(.int (nar .byte (sd.toInt8.toInt32))), (.int (nar .byte ((sd + (1 : Int32)).toInt8.toInt32))), (.int (nar .byte ((sd + (2 : Int32)).toInt8.toInt32))), (.int (nar .byte ((sd + (3 : Int32)).toInt8.toInt32))), (.int (nar .byte ((sd + (4 : Int32)).toInt8.toInt32))), (.int (nar .byte ((sd + (5 : Int32)).toInt8.toInt32))), (.int (nar .byte ((sd + (6 : Int32)).toInt8.toInt32))), (.int (nar .byte ((sd + (7 : Int32)).toInt8.toInt32))), (.int (nar .byte ((sd + (8 : Int32)).toInt8.toInt32))), (.int (nar .byte ((sd + (9 : Int32)).toInt8.toInt32))), (.int (nar .byte ((sd + (10 : Int32)).toInt8.toInt32))), (.int (nar .byte ((sd + (11 : Int32)).toInt8.toInt32))), (.int (nar .byte ((sd + (12 : Int32)).toInt8.toInt32))), (.int (nar .byte ((sd + (13 : Int32)).toInt8.toInt32))), (.int (nar .byte ((sd + (14 : Int32)).toInt8.toInt32))), (.int (nar .byte ((sd + (15 : Int32)).toInt8.toInt32))), (.int (nar .byte ((sd + (16 : Int32)).toInt8.toInt32))), (.int (nar .byte ((sd + (17 : Int32)).toInt8.toInt32))), (.int (nar .byte ((sd + (18 : Int32)).toInt8.toInt32))), (.int (nar .byte ((sd + (19 : Int32)).toInt8.toInt32))), (.int (nar .byte ((sd + (20 : Int32)).toInt8.toInt32))), (.int (nar .byte ((sd + (21 : Int32)).toInt8.toInt32))), (.int (nar .byte ((sd + (22 : Int32)).toInt8.toInt32))), (.int (nar .byte ((sd + (23 : Int32)).toInt8.toInt32))), (.int (nar .byte ((sd + (24 : Int32)).toInt8.toInt32))), (.int (nar .byte ((sd + (25 : Int32)).toInt8.toInt32))), (.int (nar .byte ((sd + (26 : Int32)).toInt8.toInt32))), (.int (nar .byte ((sd + (27 : Int32)).toInt8.toInt32))), (.int (nar .byte ((sd + (28 : Int32)).toInt8.toInt32))), (.int (nar .byte ((sd + (29 : Int32)).toInt8.toInt32))), (.int (nar .byte ((sd + (30 : Int32)).toInt8.toInt32))), (.int (nar .byte ((sd + (31 : Int32)).toInt8.toInt32))), (.int (nar .byte ((sd + (32 : Int32)).toInt8.toInt32))), (.int (nar .byte ((sd + (33 : Int32)).toInt8.toInt32))), (.int (nar .byte ((sd + (34 : Int32)).toInt8.toInt32))), (.int (nar .byte ((sd + (35 : Int32)).toInt8.toInt32))), (.int (nar .byte ((sd + (36 : Int32)).toInt8.toInt32))), (.int (nar .byte ((sd + (37 : Int32)).toInt8.toInt32))), (.int (nar .byte ((sd + (38 : Int32)).toInt8.toInt32))), (.int (nar .byte ((sd + (39 : Int32)).toInt8.toInt32))), (.int (nar .byte ((sd + (40 : Int32)).toInt8.toInt32))), (.int (nar .byte ((sd + (41 : Int32)).toInt8.toInt32))), (.int (nar .byte ((sd + (42 : Int32)).toInt8.toInt32))), (.int (nar .byte ((sd + (43 : Int32)).toInt8.toInt32))), (.int (nar .byte ((sd + (44 : Int32)).toInt8.toInt32))), (.int (0 : Int32)), (.int (0 : Int32)), (.int (0 : Int32))] (.int (0 : Int32)) := Arv.set Ar271 q1_271 Sz271 q3_271 Hs271 G271 (fits_nar_byte _) W271 44 (by decide) (show 44 < 48 by decide)
  have pre273 : ∀ t, Steps p.tables e below (T271.setTop (mkF m 443 #[.val (.int sd), .val (.int xs), .val (.int ys), .val (.int ws0), .val (.int hs), .val (.long pk), .second, .val (.int sd), .unset, .unset, .unset, .unset, .unset, .unset, .unset, .unset, .unset, .unset, .unset, .unset, .unset] [(.ref b1)])) t → Steps p.tables e below (s₁.setTop (entryFrame m #[(.int sd), (.int xs), (.int ys), (.int ws0), (.int hs), (.long pk)] maxLocals)) t := fun t k => pre270 t (st271 t k)
  obtain ⟨Lo274, Xo274, No274⟩ : ∃ L, Stand p l e room_1 s m #[(.int sd), (.int xs), (.int ys), (.int ws0), (.int hs), (.long pk)] below meth c T271 L 1 48 ∧ Fr n0 L := ⟨_, X271, N271⟩
  have E275_0 : Exa Z h271 b1 "[B" := (E269_0.wr W271)
  have Z275 : n0 ≤ h271.size := (Nat.le_trans Z269 (Nat.le_of_eq W271.size.symm))
  have pre276 : ∀ t, Steps p.tables e below (T271.setTop (mkF m 452 #[.val (.int sd), .val (.int xs), .val (.int ys), .val (.int ws0), .val (.int hs), .val (.long pk), .second, .val (.int sd), .unset, .unset, .unset, .unset, .unset, .unset, .unset, .unset, .unset, .unset, .unset, .unset, .unset] [(.int ((sd + (45 : Int32)).toInt8.toInt32)), (.int (45 : Int32)), (.ref b1), (.ref b1)])) t → Steps p.tables e below (s₁.setTop (entryFrame m #[(.int sd), (.int xs), (.int ys), (.int ws0), (.int hs), (.long pk)] maxLocals)) t := by
    intro t k
    refine pre273 t ?_
    refine XS.dup Xo274.here hx rfl (hb hby at_443) rfl rfl ?_
    show Steps p.tables e below (T271.setTop (mkF m 444 #[.val (.int sd), .val (.int xs), .val (.int ys), .val (.int ws0), .val (.int hs), .val (.long pk), .second, .val (.int sd), .unset, .unset, .unset, .unset, .unset, .unset, .unset, .unset, .unset, .unset, .unset, .unset, .unset] [(.ref b1), (.ref b1)])) _
    refine XS.bipush Xo274.here hx rfl (hb hby at_444) ?_
    show Steps p.tables e below (T271.setTop (mkF m 446 #[.val (.int sd), .val (.int xs), .val (.int ys), .val (.int ws0), .val (.int hs), .val (.long pk), .second, .val (.int sd), .unset, .unset, .unset, .unset, .unset, .unset, .unset, .unset, .unset, .unset, .unset, .unset, .unset] [(.int (45 : Int32)), (.ref b1), (.ref b1)])) _
    refine XS.iload Xo274.here hx rfl (hb hby at_446) rfl ?_
    show Steps p.tables e below (T271.setTop (mkF m 448 #[.val (.int sd), .val (.int xs), .val (.int ys), .val (.int ws0), .val (.int hs), .val (.long pk), .second, .val (.int sd), .unset, .unset, .unset, .unset, .unset, .unset, .unset, .unset, .unset, .unset, .unset, .unset, .unset] [(.int sd), (.int (45 : Int32)), (.ref b1), (.ref b1)])) _
    refine XS.bipush Xo274.here hx rfl (hb hby at_448) ?_
    show Steps p.tables e below (T271.setTop (mkF m 450 #[.val (.int sd), .val (.int xs), .val (.int ys), .val (.int ws0), .val (.int hs), .val (.long pk), .second, .val (.int sd), .unset, .unset, .unset, .unset, .unset, .unset, .unset, .unset, .unset, .unset, .unset, .unset, .unset] [(.int (45 : Int32)), (.int sd), (.int (45 : Int32)), (.ref b1), (.ref b1)])) _
    refine XS.iadd Xo274.here hx rfl (hb hby at_450) rfl ?_
    show Steps p.tables e below (T271.setTop (mkF m 451 #[.val (.int sd), .val (.int xs), .val (.int ys), .val (.int ws0), .val (.int hs), .val (.long pk), .second, .val (.int sd), .unset, .unset, .unset, .unset, .unset, .unset, .unset, .unset, .unset, .unset, .unset, .unset, .unset] [(.int (sd + (45 : Int32))), (.int (45 : Int32)), (.ref b1), (.ref b1)])) _
    refine XT.i2b Xo274.here hx rfl (hb hby at_451) rfl ?_
    show Steps p.tables e below (T271.setTop (mkF m 452 #[.val (.int sd), .val (.int xs), .val (.int ys), .val (.int ws0), .val (.int hs), .val (.long pk), .second, .val (.int sd), .unset, .unset, .unset, .unset, .unset, .unset, .unset, .unset, .unset, .unset, .unset, .unset, .unset] [(.int ((sd + (45 : Int32)).toInt8.toInt32)), (.int (45 : Int32)), (.ref b1), (.ref b1)])) _
    exact k
  obtain ⟨cc277, Ar277, q1_277, Sz277, q3_277, Hs277, G277⟩ := id V271
  have hin277 : ¬ ((45 : Int32) < 0 ∨ cc277.slots.size ≤ ((45 : Int32) : Int32).toNatClampNeg) := inb_of Sz277 ⟨(by decide), (by decide)⟩
  obtain ⟨T277, h277, X277, e277, W277, st277⟩ := stB Xo274 hx hZ e271 Ar277 hin277 (g := (mkF m 452 #[.val (.int sd), .val (.int xs), .val (.int ys), .val (.int ws0), .val (.int hs), .val (.long pk), .second, .val (.int sd), .unset, .unset, .unset, .unset, .unset, .unset, .unset, .unset, .unset, .unset, .unset, .unset, .unset] [(.int ((sd + (45 : Int32)).toInt8.toInt32)), (.int (45 : Int32)), (.ref b1), (.ref b1)])) rfl rfl (hb hby at_452)
  have N277 := Fr.snoc X277 No274 g_b1
  have V277 : Arv Z h277 b1 cA3 .byte (48 : Int32) [(.int (nar .byte (sd.toInt8.toInt32))), (.int (nar .byte ((sd + (1 : Int32)).toInt8.toInt32))), (.int (nar .byte ((sd + (2 : Int32)).toInt8.toInt32))), (.int (nar .byte ((sd + (3 : Int32)).toInt8.toInt32))), (.int (nar .byte ((sd + (4 : Int32)).toInt8.toInt32))), (.int (nar .byte ((sd + (5 : Int32)).toInt8.toInt32))), (.int (nar .byte ((sd + (6 : Int32)).toInt8.toInt32))), (.int (nar .byte ((sd + (7 : Int32)).toInt8.toInt32))), (.int (nar .byte ((sd + (8 : Int32)).toInt8.toInt32))), (.int (nar .byte ((sd + (9 : Int32)).toInt8.toInt32))), (.int (nar .byte ((sd + (10 : Int32)).toInt8.toInt32))), (.int (nar .byte ((sd + (11 : Int32)).toInt8.toInt32))), (.int (nar .byte ((sd + (12 : Int32)).toInt8.toInt32))), (.int (nar .byte ((sd + (13 : Int32)).toInt8.toInt32))), (.int (nar .byte ((sd + (14 : Int32)).toInt8.toInt32))), (.int (nar .byte ((sd + (15 : Int32)).toInt8.toInt32))), (.int (nar .byte ((sd + (16 : Int32)).toInt8.toInt32))), (.int (nar .byte ((sd + (17 : Int32)).toInt8.toInt32))), (.int (nar .byte ((sd + (18 : Int32)).toInt8.toInt32))), (.int (nar .byte ((sd + (19 : Int32)).toInt8.toInt32))), (.int (nar .byte ((sd + (20 : Int32)).toInt8.toInt32))), (.int (nar .byte ((sd + (21 : Int32)).toInt8.toInt32))), (.int (nar .byte ((sd + (22 : Int32)).toInt8.toInt32))), (.int (nar .byte ((sd + (23 : Int32)).toInt8.toInt32))), (.int (nar .byte ((sd + (24 : Int32)).toInt8.toInt32))), (.int (nar .byte ((sd + (25 : Int32)).toInt8.toInt32))), (.int (nar .byte ((sd + (26 : Int32)).toInt8.toInt32))), (.int (nar .byte ((sd + (27 : Int32)).toInt8.toInt32))), (.int (nar .byte ((sd + (28 : Int32)).toInt8.toInt32))), (.int (nar .byte ((sd + (29 : Int32)).toInt8.toInt32))), (.int (nar .byte ((sd + (30 : Int32)).toInt8.toInt32))), (.int (nar .byte ((sd + (31 : Int32)).toInt8.toInt32))), (.int (nar .byte ((sd + (32 : Int32)).toInt8.toInt32))), (.int (nar .byte ((sd + (33 : Int32)).toInt8.toInt32))), (.int (nar .byte ((sd + (34 : Int32)).toInt8.toInt32))), (.int (nar .byte ((sd + (35 : Int32)).toInt8.toInt32))), (.int (nar .byte ((sd + (36 : Int32)).toInt8.toInt32))), (.int (nar .byte ((sd + (37 : Int32)).toInt8.toInt32))), (.int (nar .byte ((sd + (38 : Int32)).toInt8.toInt32))), (.int (nar .byte ((sd + (39 : Int32)).toInt8.toInt32))), (.int (nar .byte ((sd + (40 : Int32)).toInt8.toInt32))), (.int (nar .byte ((sd + (41 : Int32)).toInt8.toInt32))), (.int (nar .byte ((sd + (42 : Int32)).toInt8.toInt32))), (.int (nar .byte ((sd + (43 : Int32)).toInt8.toInt32))), (.int (nar .byte ((sd + (44 : Int32)).toInt8.toInt32))), (.int (nar .byte ((sd + (45 : Int32)).toInt8.toInt32))), (.int (0 : Int32)), (.int (0 : Int32))] (.int (0 : Int32)) := Arv.set Ar277 q1_277 Sz277 q3_277 Hs277 G277 (fits_nar_byte _) W277 45 (by decide) (show 45 < 48 by decide)
  have pre279 : ∀ t, Steps p.tables e below (T277.setTop (mkF m 453 #[.val (.int sd), .val (.int xs), .val (.int ys), .val (.int ws0), .val (.int hs), .val (.long pk), .second, .val (.int sd), .unset, .unset, .unset, .unset, .unset, .unset, .unset, .unset, .unset, .unset, .unset, .unset, .unset] [(.ref b1)])) t → Steps p.tables e below (s₁.setTop (entryFrame m #[(.int sd), (.int xs), (.int ys), (.int ws0), (.int hs), (.long pk)] maxLocals)) t := fun t k => pre276 t (st277 t k)
  obtain ⟨Lo280, Xo280, No280⟩ : ∃ L, Stand p l e room_1 s m #[(.int sd), (.int xs), (.int ys), (.int ws0), (.int hs), (.long pk)] below meth c T277 L 1 48 ∧ Fr n0 L := ⟨_, X277, N277⟩
  have E281_0 : Exa Z h277 b1 "[B" := (E275_0.wr W277)
  have Z281 : n0 ≤ h277.size := (Nat.le_trans Z275 (Nat.le_of_eq W277.size.symm))
  have pre282 : ∀ t, Steps p.tables e below (T277.setTop (mkF m 462 #[.val (.int sd), .val (.int xs), .val (.int ys), .val (.int ws0), .val (.int hs), .val (.long pk), .second, .val (.int sd), .unset, .unset, .unset, .unset, .unset, .unset, .unset, .unset, .unset, .unset, .unset, .unset, .unset] [(.int ((sd + (46 : Int32)).toInt8.toInt32)), (.int (46 : Int32)), (.ref b1), (.ref b1)])) t → Steps p.tables e below (s₁.setTop (entryFrame m #[(.int sd), (.int xs), (.int ys), (.int ws0), (.int hs), (.long pk)] maxLocals)) t := by
    intro t k
    refine pre279 t ?_
    refine XS.dup Xo280.here hx rfl (hb hby at_453) rfl rfl ?_
    show Steps p.tables e below (T277.setTop (mkF m 454 #[.val (.int sd), .val (.int xs), .val (.int ys), .val (.int ws0), .val (.int hs), .val (.long pk), .second, .val (.int sd), .unset, .unset, .unset, .unset, .unset, .unset, .unset, .unset, .unset, .unset, .unset, .unset, .unset] [(.ref b1), (.ref b1)])) _
    refine XS.bipush Xo280.here hx rfl (hb hby at_454) ?_
    show Steps p.tables e below (T277.setTop (mkF m 456 #[.val (.int sd), .val (.int xs), .val (.int ys), .val (.int ws0), .val (.int hs), .val (.long pk), .second, .val (.int sd), .unset, .unset, .unset, .unset, .unset, .unset, .unset, .unset, .unset, .unset, .unset, .unset, .unset] [(.int (46 : Int32)), (.ref b1), (.ref b1)])) _
    refine XS.iload Xo280.here hx rfl (hb hby at_456) rfl ?_
    show Steps p.tables e below (T277.setTop (mkF m 458 #[.val (.int sd), .val (.int xs), .val (.int ys), .val (.int ws0), .val (.int hs), .val (.long pk), .second, .val (.int sd), .unset, .unset, .unset, .unset, .unset, .unset, .unset, .unset, .unset, .unset, .unset, .unset, .unset] [(.int sd), (.int (46 : Int32)), (.ref b1), (.ref b1)])) _
    refine XS.bipush Xo280.here hx rfl (hb hby at_458) ?_
    show Steps p.tables e below (T277.setTop (mkF m 460 #[.val (.int sd), .val (.int xs), .val (.int ys), .val (.int ws0), .val (.int hs), .val (.long pk), .second, .val (.int sd), .unset, .unset, .unset, .unset, .unset, .unset, .unset, .unset, .unset, .unset, .unset, .unset, .unset] [(.int (46 : Int32)), (.int sd), (.int (46 : Int32)), (.ref b1), (.ref b1)])) _
    refine XS.iadd Xo280.here hx rfl (hb hby at_460) rfl ?_
    show Steps p.tables e below (T277.setTop (mkF m 461 #[.val (.int sd), .val (.int xs), .val (.int ys), .val (.int ws0), .val (.int hs), .val (.long pk), .second, .val (.int sd), .unset, .unset, .unset, .unset, .unset, .unset, .unset, .unset, .unset, .unset, .unset, .unset, .unset] [(.int (sd + (46 : Int32))), (.int (46 : Int32)), (.ref b1), (.ref b1)])) _
    refine XT.i2b Xo280.here hx rfl (hb hby at_461) rfl ?_
    show Steps p.tables e below (T277.setTop (mkF m 462 #[.val (.int sd), .val (.int xs), .val (.int ys), .val (.int ws0), .val (.int hs), .val (.long pk), .second, .val (.int sd), .unset, .unset, .unset, .unset, .unset, .unset, .unset, .unset, .unset, .unset, .unset, .unset, .unset] [(.int ((sd + (46 : Int32)).toInt8.toInt32)), (.int (46 : Int32)), (.ref b1), (.ref b1)])) _
    exact k
  obtain ⟨cc283, Ar283, q1_283, Sz283, q3_283, Hs283, G283⟩ := id V277
  have hin283 : ¬ ((46 : Int32) < 0 ∨ cc283.slots.size ≤ ((46 : Int32) : Int32).toNatClampNeg) := inb_of Sz283 ⟨(by decide), (by decide)⟩
  obtain ⟨T283, h283, X283, e283, W283, st283⟩ := stB Xo280 hx hZ e277 Ar283 hin283 (g := (mkF m 462 #[.val (.int sd), .val (.int xs), .val (.int ys), .val (.int ws0), .val (.int hs), .val (.long pk), .second, .val (.int sd), .unset, .unset, .unset, .unset, .unset, .unset, .unset, .unset, .unset, .unset, .unset, .unset, .unset] [(.int ((sd + (46 : Int32)).toInt8.toInt32)), (.int (46 : Int32)), (.ref b1), (.ref b1)])) rfl rfl (hb hby at_462)
  have N283 := Fr.snoc X283 No280 g_b1
  have V283 : Arv Z h283 b1 cA3 .byte (48 : Int32) [(.int (nar .byte (sd.toInt8.toInt32))), (.int (nar .byte ((sd + (1 : Int32)).toInt8.toInt32))), (.int (nar .byte ((sd + (2 : Int32)).toInt8.toInt32))), (.int (nar .byte ((sd + (3 : Int32)).toInt8.toInt32))), (.int (nar .byte ((sd + (4 : Int32)).toInt8.toInt32))), (.int (nar .byte ((sd + (5 : Int32)).toInt8.toInt32))), (.int (nar .byte ((sd + (6 : Int32)).toInt8.toInt32))), (.int (nar .byte ((sd + (7 : Int32)).toInt8.toInt32))), (.int (nar .byte ((sd + (8 : Int32)).toInt8.toInt32))), (.int (nar .byte ((sd + (9 : Int32)).toInt8.toInt32))), (.int (nar .byte ((sd + (10 : Int32)).toInt8.toInt32))), (.int (nar .byte ((sd + (11 : Int32)).toInt8.toInt32))), (.int (nar .byte ((sd + (12 : Int32)).toInt8.toInt32))), (.int (nar .byte ((sd + (13 : Int32)).toInt8.toInt32))), (.int (nar .byte ((sd + (14 : Int32)).toInt8.toInt32))), (.int (nar .byte ((sd + (15 : Int32)).toInt8.toInt32))), (.int (nar .byte ((sd + (16 : Int32)).toInt8.toInt32))), (.int (nar .byte ((sd + (17 : Int32)).toInt8.toInt32))), (.int (nar .byte ((sd + (18 : Int32)).toInt8.toInt32))), (.int (nar .byte ((sd + (19 : Int32)).toInt8.toInt32))), (.int (nar .byte ((sd + (20 : Int32)).toInt8.toInt32))), (.int (nar .byte ((sd + (21 : Int32)).toInt8.toInt32))), (.int (nar .byte ((sd + (22 : Int32)).toInt8.toInt32))), (.int (nar .byte ((sd + (23 : Int32)).toInt8.toInt32))), (.int (nar .byte ((sd + (24 : Int32)).toInt8.toInt32))), (.int (nar .byte ((sd + (25 : Int32)).toInt8.toInt32))), (.int (nar .byte ((sd + (26 : Int32)).toInt8.toInt32))), (.int (nar .byte ((sd + (27 : Int32)).toInt8.toInt32))), (.int (nar .byte ((sd + (28 : Int32)).toInt8.toInt32))), (.int (nar .byte ((sd + (29 : Int32)).toInt8.toInt32))), (.int (nar .byte ((sd + (30 : Int32)).toInt8.toInt32))), (.int (nar .byte ((sd + (31 : Int32)).toInt8.toInt32))), (.int (nar .byte ((sd + (32 : Int32)).toInt8.toInt32))), (.int (nar .byte ((sd + (33 : Int32)).toInt8.toInt32))), (.int (nar .byte ((sd + (34 : Int32)).toInt8.toInt32))), (.int (nar .byte ((sd + (35 : Int32)).toInt8.toInt32))), (.int (nar .byte ((sd + (36 : Int32)).toInt8.toInt32))), (.int (nar .byte ((sd + (37 : Int32)).toInt8.toInt32))), (.int (nar .byte ((sd + (38 : Int32)).toInt8.toInt32))), (.int (nar .byte ((sd + (39 : Int32)).toInt8.toInt32))), (.int (nar .byte ((sd + (40 : Int32)).toInt8.toInt32))), (.int (nar .byte ((sd + (41 : Int32)).toInt8.toInt32))), (.int (nar .byte ((sd + (42 : Int32)).toInt8.toInt32))), (.int (nar .byte ((sd + (43 : Int32)).toInt8.toInt32))), (.int (nar .byte ((sd + (44 : Int32)).toInt8.toInt32))), (.int (nar .byte ((sd + (45 : Int32)).toInt8.toInt32))), (.int (nar .byte ((sd + (46 : Int32)).toInt8.toInt32))), (.int (0 : Int32))] (.int (0 : Int32)) := Arv.set Ar283 q1_283 Sz283 q3_283 Hs283 G283 (fits_nar_byte _) W283 46 (by decide) (show 46 < 48 by decide)
  have pre285 : ∀ t, Steps p.tables e below (T283.setTop (mkF m 463 #[.val (.int sd), .val (.int xs), .val (.int ys), .val (.int ws0), .val (.int hs), .val (.long pk), .second, .val (.int sd), .unset, .unset, .unset, .unset, .unset, .unset, .unset, .unset, .unset, .unset, .unset, .unset, .unset] [(.ref b1)])) t → Steps p.tables e below (s₁.setTop (entryFrame m #[(.int sd), (.int xs), (.int ys), (.int ws0), (.int hs), (.long pk)] maxLocals)) t := fun t k => pre282 t (st283 t k)
  obtain ⟨Lo286, Xo286, No286⟩ : ∃ L, Stand p l e room_1 s m #[(.int sd), (.int xs), (.int ys), (.int ws0), (.int hs), (.long pk)] below meth c T283 L 1 48 ∧ Fr n0 L := ⟨_, X283, N283⟩
  have E287_0 : Exa Z h283 b1 "[B" := (E281_0.wr W283)
  have Z287 : n0 ≤ h283.size := (Nat.le_trans Z281 (Nat.le_of_eq W283.size.symm))
  have pre288 : ∀ t, Steps p.tables e below (T283.setTop (mkF m 472 #[.val (.int sd), .val (.int xs), .val (.int ys), .val (.int ws0), .val (.int hs), .val (.long pk), .second, .val (.int sd), .unset, .unset, .unset, .unset, .unset, .unset, .unset, .unset, .unset, .unset, .unset, .unset, .unset] [(.int ((sd + (47 : Int32)).toInt8.toInt32)), (.int (47 : Int32)), (.ref b1), (.ref b1)])) t → Steps p.tables e below (s₁.setTop (entryFrame m #[(.int sd), (.int xs), (.int ys), (.int ws0), (.int hs), (.long pk)] maxLocals)) t := by
    intro t k
    refine pre285 t ?_
    refine XS.dup Xo286.here hx rfl (hb hby at_463) rfl rfl ?_
    show Steps p.tables e below (T283.setTop (mkF m 464 #[.val (.int sd), .val (.int xs), .val (.int ys), .val (.int ws0), .val (.int hs), .val (.long pk), .second, .val (.int sd), .unset, .unset, .unset, .unset, .unset, .unset, .unset, .unset, .unset, .unset, .unset, .unset, .unset] [(.ref b1), (.ref b1)])) _
    refine XS.bipush Xo286.here hx rfl (hb hby at_464) ?_
    show Steps p.tables e below (T283.setTop (mkF m 466 #[.val (.int sd), .val (.int xs), .val (.int ys), .val (.int ws0), .val (.int hs), .val (.long pk), .second, .val (.int sd), .unset, .unset, .unset, .unset, .unset, .unset, .unset, .unset, .unset, .unset, .unset, .unset, .unset] [(.int (47 : Int32)), (.ref b1), (.ref b1)])) _
    refine XS.iload Xo286.here hx rfl (hb hby at_466) rfl ?_
    show Steps p.tables e below (T283.setTop (mkF m 468 #[.val (.int sd), .val (.int xs), .val (.int ys), .val (.int ws0), .val (.int hs), .val (.long pk), .second, .val (.int sd), .unset, .unset, .unset, .unset, .unset, .unset, .unset, .unset, .unset, .unset, .unset, .unset, .unset] [(.int sd), (.int (47 : Int32)), (.ref b1), (.ref b1)])) _
    refine XS.bipush Xo286.here hx rfl (hb hby at_468) ?_
    show Steps p.tables e below (T283.setTop (mkF m 470 #[.val (.int sd), .val (.int xs), .val (.int ys), .val (.int ws0), .val (.int hs), .val (.long pk), .second, .val (.int sd), .unset, .unset, .unset, .unset, .unset, .unset, .unset, .unset, .unset, .unset, .unset, .unset, .unset] [(.int (47 : Int32)), (.int sd), (.int (47 : Int32)), (.ref b1), (.ref b1)])) _
    refine XS.iadd Xo286.here hx rfl (hb hby at_470) rfl ?_
    show Steps p.tables e below (T283.setTop (mkF m 471 #[.val (.int sd), .val (.int xs), .val (.int ys), .val (.int ws0), .val (.int hs), .val (.long pk), .second, .val (.int sd), .unset, .unset, .unset, .unset, .unset, .unset, .unset, .unset, .unset, .unset, .unset, .unset, .unset] [(.int (sd + (47 : Int32))), (.int (47 : Int32)), (.ref b1), (.ref b1)])) _
    refine XT.i2b Xo286.here hx rfl (hb hby at_471) rfl ?_
    show Steps p.tables e below (T283.setTop (mkF m 472 #[.val (.int sd), .val (.int xs), .val (.int ys), .val (.int ws0), .val (.int hs), .val (.long pk), .second, .val (.int sd), .unset, .unset, .unset, .unset, .unset, .unset, .unset, .unset, .unset, .unset, .unset, .unset, .unset] [(.int ((sd + (47 : Int32)).toInt8.toInt32)), (.int (47 : Int32)), (.ref b1), (.ref b1)])) _
    exact k
  obtain ⟨cc289, Ar289, q1_289, Sz289, q3_289, Hs289, G289⟩ := id V283
  have hin289 : ¬ ((47 : Int32) < 0 ∨ cc289.slots.size ≤ ((47 : Int32) : Int32).toNatClampNeg) := inb_of Sz289 ⟨(by decide), (by decide)⟩
  obtain ⟨T289, h289, X289, e289, W289, st289⟩ := stB Xo286 hx hZ e283 Ar289 hin289 (g := (mkF m 472 #[.val (.int sd), .val (.int xs), .val (.int ys), .val (.int ws0), .val (.int hs), .val (.long pk), .second, .val (.int sd), .unset, .unset, .unset, .unset, .unset, .unset, .unset, .unset, .unset, .unset, .unset, .unset, .unset] [(.int ((sd + (47 : Int32)).toInt8.toInt32)), (.int (47 : Int32)), (.ref b1), (.ref b1)])) rfl rfl (hb hby at_472)
  have N289 := Fr.snoc X289 No286 g_b1
  have V289 : Arv Z h289 b1 cA3 .byte (48 : Int32) [(.int (nar .byte (sd.toInt8.toInt32))), (.int (nar .byte ((sd + (1 : Int32)).toInt8.toInt32))), (.int (nar .byte ((sd + (2 : Int32)).toInt8.toInt32))), (.int (nar .byte ((sd + (3 : Int32)).toInt8.toInt32))), (.int (nar .byte ((sd + (4 : Int32)).toInt8.toInt32))), (.int (nar .byte ((sd + (5 : Int32)).toInt8.toInt32))), (.int (nar .byte ((sd + (6 : Int32)).toInt8.toInt32))), (.int (nar .byte ((sd + (7 : Int32)).toInt8.toInt32))), (.int (nar .byte ((sd + (8 : Int32)).toInt8.toInt32))), (.int (nar .byte ((sd + (9 : Int32)).toInt8.toInt32))), (.int (nar .byte ((sd + (10 : Int32)).toInt8.toInt32))), (.int (nar .byte ((sd + (11 : Int32)).toInt8.toInt32))), (.int (nar .byte ((sd + (12 : Int32)).toInt8.toInt32))), (.int (nar .byte ((sd + (13 : Int32)).toInt8.toInt32))), (.int (nar .byte ((sd + (14 : Int32)).toInt8.toInt32))), (.int (nar .byte ((sd + (15 : Int32)).toInt8.toInt32))), (.int (nar .byte ((sd + (16 : Int32)).toInt8.toInt32))), (.int (nar .byte ((sd + (17 : Int32)).toInt8.toInt32))), (.int (nar .byte ((sd + (18 : Int32)).toInt8.toInt32))), (.int (nar .byte ((sd + (19 : Int32)).toInt8.toInt32))), (.int (nar .byte ((sd + (20 : Int32)).toInt8.toInt32))), (.int (nar .byte ((sd + (21 : Int32)).toInt8.toInt32))), (.int (nar .byte ((sd + (22 : Int32)).toInt8.toInt32))), (.int (nar .byte ((sd + (23 : Int32)).toInt8.toInt32))), (.int (nar .byte ((sd + (24 : Int32)).toInt8.toInt32))), (.int (nar .byte ((sd + (25 : Int32)).toInt8.toInt32))), (.int (nar .byte ((sd + (26 : Int32)).toInt8.toInt32))), (.int (nar .byte ((sd + (27 : Int32)).toInt8.toInt32))), (.int (nar .byte ((sd + (28 : Int32)).toInt8.toInt32))), (.int (nar .byte ((sd + (29 : Int32)).toInt8.toInt32))), (.int (nar .byte ((sd + (30 : Int32)).toInt8.toInt32))), (.int (nar .byte ((sd + (31 : Int32)).toInt8.toInt32))), (.int (nar .byte ((sd + (32 : Int32)).toInt8.toInt32))), (.int (nar .byte ((sd + (33 : Int32)).toInt8.toInt32))), (.int (nar .byte ((sd + (34 : Int32)).toInt8.toInt32))), (.int (nar .byte ((sd + (35 : Int32)).toInt8.toInt32))), (.int (nar .byte ((sd + (36 : Int32)).toInt8.toInt32))), (.int (nar .byte ((sd + (37 : Int32)).toInt8.toInt32))), (.int (nar .byte ((sd + (38 : Int32)).toInt8.toInt32))), (.int (nar .byte ((sd + (39 : Int32)).toInt8.toInt32))), (.int (nar .byte ((sd + (40 : Int32)).toInt8.toInt32))), (.int (nar .byte ((sd + (41 : Int32)).toInt8.toInt32))), (.int (nar .byte ((sd + (42 : Int32)).toInt8.toInt32))), (.int (nar .byte ((sd + (43 : Int32)).toInt8.toInt32))), (.int (nar .byte ((sd + (44 : Int32)).toInt8.toInt32))), (.int (nar .byte ((sd + (45 : Int32)).toInt8.toInt32))), (.int (nar .byte ((sd + (46 : Int32)).toInt8.toInt32))), (.int (nar .byte ((sd + (47 : Int32)).toInt8.toInt32)))] (.int (0 : Int32)) := Arv.set Ar289 q1_289 Sz289 q3_289 Hs289 G289 (fits_nar_byte _) W289 47 (by decide) (show 47 < 48 by decide)
  have pre291 : ∀ t, Steps p.tables e below (T289.setTop (mkF m 473 #[.val (.int sd), .val (.int xs), .val (.int ys), .val (.int ws0), .val (.int hs), .val (.long pk), .second, .val (.int sd), .unset, .unset, .unset, .unset, .unset, .unset, .unset, .unset, .unset, .unset, .unset, .unset, .unset] [(.ref b1)])) t → Steps p.tables e below (s₁.setTop (entryFrame m #[(.int sd), (.int xs), (.int ys), (.int ws0), (.int hs), (.long pk)] maxLocals)) t := fun t k => pre288 t (st289 t k)
  obtain ⟨Lo292, Xo292, No292⟩ : ∃ L, Stand p l e room_1 s m #[(.int sd), (.int xs), (.int ys), (.int ws0), (.int hs), (.long pk)] below meth c T289 L 1 48 ∧ Fr n0 L := ⟨_, X289, N289⟩
  have E293_0 : Exa Z h289 b1 "[B" := (E287_0.wr W289)
  have Z293 : n0 ≤ h289.size := (Nat.le_trans Z287 (Nat.le_of_eq W289.size.symm))
  have Vs : Arv Z h289 b1 cA3 .byte (48 : Int32) (own_src sd) (.int (0 : Int32)) := V289
  have pre296 : ∀ t, Steps p.tables e below (T289.setTop (mkF m 475 #[.val (.int sd), .val (.int xs), .val (.int ys), .val (.int ws0), .val (.int hs), .val (.long pk), .second, .val (.int sd), .val (.ref b1), .unset, .unset, .unset, .unset, .unset, .unset, .unset, .unset, .unset, .unset, .unset, .unset] [])) t → Steps p.tables e below (s₁.setTop (entryFrame m #[(.int sd), (.int xs), (.int ys), (.int ws0), (.int hs), (.long pk)] maxLocals)) t := by
    intro t k
    refine pre291 t ?_
    refine XS.astore Xo292.here hx rfl (hb hby at_473) rfl rfl (l' := #[.val (.int sd), .val (.int xs), .val (.int ys), .val (.int ws0), .val (.int hs), .val (.long pk), .second, .val (.int sd), .val (.ref b1), .unset, .unset, .unset, .unset, .unset, .unset, .unset, .unset, .unset, .unset, .unset, .unset]) rfl ?_
    show Steps p.tables e below (T289.setTop (mkF m 475 #[.val (.int sd), .val (.int xs), .val (.int ys), .val (.int ws0), .val (.int hs), .val (.long pk), .second, .val (.int sd), .val (.ref b1), .unset, .unset, .unset, .unset, .unset, .unset, .unset, .unset, .unset, .unset, .unset, .unset] [])) _
    exact k
  obtain ⟨T297, h297, X297, e297, E297, A297, D297, -, st297⟩ := newO Xo292 hx hZ hown (hw _ (List.mem_of_getElem? (i := 1) rfl)) (hw _ (List.mem_of_getElem? (i := 2) rfl)) (hw _ (List.mem_of_getElem? (i := 3) rfl)) e289 (g := (mkF m 475 #[.val (.int sd), .val (.int xs), .val (.int ys), .val (.int ws0), .val (.int hs), .val (.long pk), .second, .val (.int sd), .val (.ref b1), .unset, .unset, .unset, .unset, .unset, .unset, .unset, .unset, .unset, .unset, .unset, .unset] [])) rfl (hb hby at_475) (by decide) (by decide)
  obtain ⟨b2, gz297⟩ : ∃ z, z = h289.size := ⟨_, rfl⟩
  rw [← gz297] at A297 D297 st297
  have g_b2 : n0 ≤ b2 := Nat.le_trans Z293 (Nat.le_of_eq gz297.symm)
  have ne_b1_b2 : b1 ≠ b2 := by rw [gz297]; exact Nat.ne_of_lt E293_0.lt
  have F_width_b2 : Fld Z h297 b2 "com/example/facetwork/facetwork/image/RgbaImage" "width" "I" (.int (0 : Int32)) := D297 (Or.inr (hw _ (List.mem_of_getElem? (i := 12) rfl))) (ty := .int) (by decide)
  have F_height_b2 : Fld Z h297 b2 "com/example/facetwork/facetwork/image/RgbaImage" "height" "I" (.int (0 : Int32)) := D297 (Or.inr (hw _ (List.mem_of_getElem? (i := 14) rfl))) (ty := .int) (by decide)
  have F_pixels_b2 : Fld Z h297 b2 "com/example/facetwork/facetwork/image/RgbaImage" "pixels" "[B" .null := D297 (Or.inr (hw _ (List.mem_of_getElem? (i := 25) rfl))) (ty := (.array .byte)) (by decide)
  have pre298 : ∀ t, Steps p.tables e below (T297.setTop (mkF m 478 #[.val (.int sd), .val (.int xs), .val (.int ys), .val (.int ws0), .val (.int hs), .val (.long pk), .second, .val (.int sd), .val (.ref b1), .unset, .unset, .unset, .unset, .unset, .unset, .unset, .unset, .unset, .unset, .unset, .unset] [(.ref b2)])) t → Steps p.tables e below (s₁.setTop (entryFrame m #[(.int sd), (.int xs), (.int ys), (.int ws0), (.int hs), (.long pk)] maxLocals)) t := fun t k => pre296 t (st297 t k)
  have E299_0 : Exa Z h297 b1 "[B" := (E293_0.ext E297)
  have V299_0 : Arv Z h297 b1 cA3 .byte (48 : Int32) (own_src sd) (.int (0 : Int32)) := (Vs.ext E297)
  have Z299 : n0 ≤ h297.size := (Nat.le_trans Z293 E297.1)
  have pre301 : ∀ t, Steps p.tables e below (T297.setTop (mkF m 483 #[.val (.int sd), .val (.int xs), .val (.int ys), .val (.int ws0), .val (.int hs), .val (.long pk), .second, .val (.int sd), .val (.ref b1), .unset, .unset, .unset, .unset, .unset, .unset, .unset, .unset, .unset, .unset, .unset, .unset] [(.ref b1), (.int (3 : Int32)), (.int (4 : Int32)), (.ref b2), (.ref b2)])) t → Steps p.tables e below (s₁.setTop (entryFrame m #[(.int sd), (.int xs), (.int ys), (.int ws0), (.int hs), (.long pk)] maxLocals)) t := by
    intro t k
    refine pre298 t ?_
    refine XS.dup X297.here hx rfl (hb hby at_478) rfl rfl ?_
    show Steps p.tables e below (T297.setTop (mkF m 479 #[.val (.int sd), .val (.int xs), .val (.int ys), .val (.int ws0), .val (.int hs), .val (.long pk), .second, .val (.int sd), .val (.ref b1), .unset, .unset, .unset, .unset, .unset, .unset, .unset, .unset, .unset, .unset, .unset, .unset] [(.ref b2), (.ref b2)])) _
    refine XS.iconst X297.here hx rfl (hb hby at_479) ?_
    show Steps p.tables e below (T297.setTop (mkF m 480 #[.val (.int sd), .val (.int xs), .val (.int ys), .val (.int ws0), .val (.int hs), .val (.long pk), .second, .val (.int sd), .val (.ref b1), .unset, .unset, .unset, .unset, .unset, .unset, .unset, .unset, .unset, .unset, .unset, .unset] [(.int (4 : Int32)), (.ref b2), (.ref b2)])) _
    refine XS.iconst X297.here hx rfl (hb hby at_480) ?_
    show Steps p.tables e below (T297.setTop (mkF m 481 #[.val (.int sd), .val (.int xs), .val (.int ys), .val (.int ws0), .val (.int hs), .val (.long pk), .second, .val (.int sd), .val (.ref b1), .unset, .unset, .unset, .unset, .unset, .unset, .unset, .unset, .unset, .unset, .unset, .unset] [(.int (3 : Int32)), (.int (4 : Int32)), (.ref b2), (.ref b2)])) _
    refine XS.aload X297.here hx rfl (hb hby at_481) rfl rfl ?_
    show Steps p.tables e below (T297.setTop (mkF m 483 #[.val (.int sd), .val (.int xs), .val (.int ys), .val (.int ws0), .val (.int hs), .val (.long pk), .second, .val (.int sd), .val (.ref b1), .unset, .unset, .unset, .unset, .unset, .unset, .unset, .unset, .unset, .unset, .unset, .unset] [(.ref b1), (.int (3 : Int32)), (.int (4 : Int32)), (.ref b2), (.ref b2)])) _
    exact k
  obtain ⟨_, _, ⟨T303, L303, k303, n303⟩, -, X303, ⟨Lc303, hQ303, l303, y303, z303⟩, st303⟩ := X297.specialBack hx (y := (⟨"com/example/facetwork/facetwork/image/RgbaImage", "<init>", "(II[B)V"⟩ : MethodName)) rfl hown (mvT hZ (hw _ (List.mem_of_getElem? (i := 4) rfl))) (mvT hZ (hw _ (List.mem_of_getElem? (i := 5) rfl))) (mvT hZ (hw _ (List.mem_of_getElem? (i := 6) rfl))) (by decide) (backOf (W := 1) (rm1 l Z a0 hw [] b2 (4 : Int32) (3 : Int32) b1 cA3 (48 : Int32) (own_src sd) h297 n0 Z299 A297 g_b2 F_width_b2 F_height_b2 F_pixels_b2 E299_0 V299_0 ne_b1_b2.symm (by decide) (by decide) (by decide) (by decide)) hZ (hw _ (List.mem_of_getElem? (i := 6) rfl)) (hw _ (List.mem_of_getElem? (i := 3) rfl)) (by decide) (by decide)) (g := (mkF m 483 #[.val (.int sd), .val (.int xs), .val (.int ys), .val (.int ws0), .val (.int hs), .val (.long pk), .second, .val (.int sd), .val (.ref b1), .unset, .unset, .unset, .unset, .unset, .unset, .unset, .unset, .unset, .unset, .unset, .unset] [(.ref b1), (.int (3 : Int32)), (.int (4 : Int32)), (.ref b2), (.ref b2)])) rfl (by rw [hml]; rfl) (Steps.refl _) (a := b2) (argsL := [(.int (4 : Int32)), (.int (3 : Int32)), (.ref b1)]) (rest := [(.ref b2)]) (lenOf pd_img rfl) rfl (by show 2 * 0 + _ ≤ _; exact Nat.le_of_eq rfl) (hb hby at_483) (fun _ _ => ⟨rfl, e297, (by decide : 2 + 1 ≤ _), (by decide : 51 + 48 ≤ _)⟩)
  dsimp only [Pt.U, Pt.locs, Pt.cells, Pt.slots] at X303 l303 y303 z303 st303 hQ303
  subst l303 y303 z303
  obtain ⟨pa, rfl, Nq303, Kq303, gq303, Fa303, Fb303, Fc303, Eq303, Vq303⟩ := hQ303
  have N303 := Fr.app No292 Nq303
  have pre304 : ∀ t, Steps p.tables e below (T303.setTop (mkF m 486 #[.val (.int sd), .val (.int xs), .val (.int ys), .val (.int ws0), .val (.int hs), .val (.long pk), .second, .val (.int sd), .val (.ref b1), .unset, .unset, .unset, .unset, .unset, .unset, .unset, .unset, .unset, .unset, .unset, .unset] [(.ref b2)])) t → Steps p.tables e below (s₁.setTop (entryFrame m #[(.int sd), (.int xs), (.int ys), (.int ws0), (.int hs), (.long pk)] maxLocals)) t := fun t k => pre301 t (st303.trans k)
  obtain ⟨Lo305, Xo305, No305⟩ : ∃ L, Stand p l e room_1 s m #[(.int sd), (.int xs), (.int ys), (.int ws0), (.int hs), (.long pk)] below meth c T303 L 3 99 ∧ Fr n0 L := ⟨_, X303, N303⟩
  obtain ⟨h303, e303⟩ : ∃ z, T303.heap = z := ⟨_, rfl⟩
  have g_pa : n0 ≤ pa := Nat.le_trans Z299 gq303
  have ne_b2_pa : b2 ≠ pa := Nat.ne_of_lt (Nat.lt_of_lt_of_le F_width_b2.lt gq303)
  have ne_b1_pa : b1 ≠ pa := Nat.ne_of_lt (Nat.lt_of_lt_of_le E299_0.lt gq303)
  rw [e303] at Kq303 Fa303 Fb303 Fc303 Eq303 Vq303
  have E306_0 : Exa Z h303 b1 "[B" := (E299_0.keep Kq303)
  have E306_1 : Exa Z h303 b2 "com/example/facetwork/facetwork/image/RgbaImage" := (A297.keep Kq303)
  have V306_0 : Arv Z h303 b1 cA3 .byte (48 : Int32) (own_src sd) (.int (0 : Int32)) := (V299_0.keep Kq303 (ninS ne_b1_b2 nin0))
  have Z306 : n0 ≤ h303.size := (Nat.le_trans Z299 Kq303.1)
  have pre307 : ∀ t, Steps p.tables e below (T303.setTop (mkF m 496 #[.val (.int sd), .val (.int xs), .val (.int ys), .val (.int ws0), .val (.int hs), .val (.long pk), .second, .val (.int sd), .val (.ref b1), .val (.ref b2), .val (.int ((xs &&& (2147483647 : Int32)) % (4 : Int32))), .unset, .unset, .unset, .unset, .unset, .unset, .unset, .unset, .unset, .unset] [])) t → Steps p.tables e below (s₁.setTop (entryFrame m #[(.int sd), (.int xs), (.int ys), (.int ws0), (.int hs), (.long pk)] maxLocals)) t := by
    intro t k
    refine pre304 t ?_
    refine XS.astore Xo305.here hx rfl (hb hby at_486) rfl rfl (l' := #[.val (.int sd), .val (.int xs), .val (.int ys), .val (.int ws0), .val (.int hs), .val (.long pk), .second, .val (.int sd), .val (.ref b1), .val (.ref b2), .unset, .unset, .unset, .unset, .unset, .unset, .unset, .unset, .unset, .unset, .unset]) rfl ?_
    show Steps p.tables e below (T303.setTop (mkF m 488 #[.val (.int sd), .val (.int xs), .val (.int ys), .val (.int ws0), .val (.int hs), .val (.long pk), .second, .val (.int sd), .val (.ref b1), .val (.ref b2), .unset, .unset, .unset, .unset, .unset, .unset, .unset, .unset, .unset, .unset, .unset] [])) _
    refine XS.iloadN Xo305.here hx rfl (hb hby at_488) rfl ?_
    show Steps p.tables e below (T303.setTop (mkF m 489 #[.val (.int sd), .val (.int xs), .val (.int ys), .val (.int ws0), .val (.int hs), .val (.long pk), .second, .val (.int sd), .val (.ref b1), .val (.ref b2), .unset, .unset, .unset, .unset, .unset, .unset, .unset, .unset, .unset, .unset, .unset] [(.int xs)])) _
    refine Stand.ldcI Xo305 hx hown (mvT hZ (hw _ (List.mem_of_getElem? (i := 26) rfl))) rfl (hb hby at_489) ?_
    show Steps p.tables e below (T303.setTop (mkF m 491 #[.val (.int sd), .val (.int xs), .val (.int ys), .val (.int ws0), .val (.int hs), .val (.long pk), .second, .val (.int sd), .val (.ref b1), .val (.ref b2), .unset, .unset, .unset, .unset, .unset, .unset, .unset, .unset, .unset, .unset, .unset] [(.int (2147483647 : Int32)), (.int xs)])) _
    refine XS.iand Xo305.here hx rfl (hb hby at_491) rfl ?_
    show Steps p.tables e below (T303.setTop (mkF m 492 #[.val (.int sd), .val (.int xs), .val (.int ys), .val (.int ws0), .val (.int hs), .val (.long pk), .second, .val (.int sd), .val (.ref b1), .val (.ref b2), .unset, .unset, .unset, .unset, .unset, .unset, .unset, .unset, .unset, .unset, .unset] [(.int (xs &&& (2147483647 : Int32)))])) _
    refine XS.iconst Xo305.here hx rfl (hb hby at_492) ?_
    show Steps p.tables e below (T303.setTop (mkF m 493 #[.val (.int sd), .val (.int xs), .val (.int ys), .val (.int ws0), .val (.int hs), .val (.long pk), .second, .val (.int sd), .val (.ref b1), .val (.ref b2), .unset, .unset, .unset, .unset, .unset, .unset, .unset, .unset, .unset, .unset, .unset] [(.int (4 : Int32)), (.int (xs &&& (2147483647 : Int32)))])) _
    refine iremM Xo305 hx rfl (hb hby at_493) rfl (by decide) ?_
    show Steps p.tables e below (T303.setTop (mkF m 494 #[.val (.int sd), .val (.int xs), .val (.int ys), .val (.int ws0), .val (.int hs), .val (.long pk), .second, .val (.int sd), .val (.ref b1), .val (.ref b2), .unset, .unset, .unset, .unset, .unset, .unset, .unset, .unset, .unset, .unset, .unset] [(.int ((xs &&& (2147483647 : Int32)) % (4 : Int32)))])) _
    refine XS.istore Xo305.here hx rfl (hb hby at_494) rfl (l' := #[.val (.int sd), .val (.int xs), .val (.int ys), .val (.int ws0), .val (.int hs), .val (.long pk), .second, .val (.int sd), .val (.ref b1), .val (.ref b2), .val (.int ((xs &&& (2147483647 : Int32)) % (4 : Int32))), .unset, .unset, .unset, .unset, .unset, .unset, .unset, .unset, .unset, .unset]) rfl ?_
    show Steps p.tables e below (T303.setTop (mkF m 496 #[.val (.int sd), .val (.int xs), .val (.int ys), .val (.int ws0), .val (.int hs), .val (.long pk), .second, .val (.int sd), .val (.ref b1), .val (.ref b2), .val (.int ((xs &&& (2147483647 : Int32)) % (4 : Int32))), .unset, .unset, .unset, .unset, .unset, .unset, .unset, .unset, .unset, .unset] [])) _
    exact k
  obtain ⟨xx, hn_xx, pre308⟩ : ∃ xx : Int32, xx = ((xs &&& (2147483647 : Int32)) % (4 : Int32)) ∧ ∀ t, Steps p.tables e below (T303.setTop (mkF m 496 #[.val (.int sd), .val (.int xs), .val (.int ys), .val (.int ws0), .val (.int hs), .val (.long pk), .second, .val (.int sd), .val (.ref b1), .val (.ref b2), .val (.int xx), .unset, .unset, .unset, .unset, .unset, .unset, .unset, .unset, .unset, .unset] [])) t → Steps p.tables e below (s₁.setTop (entryFrame m #[(.int sd), (.int xs), (.int ys), (.int ws0), (.int hs), (.long pk)] maxLocals)) t := ⟨_, rfl, pre307⟩
  obtain ⟨hx0, hx4⟩ := own_mod (N := 4) (n := (4 : Int32)) rfl (by decide) hn_xx
  have pre309 : ∀ t, Steps p.tables e below (T303.setTop (mkF m 504 #[.val (.int sd), .val (.int xs), .val (.int ys), .val (.int ws0), .val (.int hs), .val (.long pk), .second, .val (.int sd), .val (.ref b1), .val (.ref b2), .val (.int xx), .val (.int ((ys &&& (2147483647 : Int32)) % (3 : Int32))), .unset, .unset, .unset, .unset, .unset, .unset, .unset, .unset, .unset] [])) t → Steps p.tables e below (s₁.setTop (entryFrame m #[(.int sd), (.int xs), (.int ys), (.int ws0), (.int hs), (.long pk)] maxLocals)) t := by
    intro t k
    refine pre308 t ?_
    refine XS.iloadN Xo305.here hx rfl (hb hby at_496) rfl ?_
    show Steps p.tables e below (T303.setTop (mkF m 497 #[.val (.int sd), .val (.int xs), .val (.int ys), .val (.int ws0), .val (.int hs), .val (.long pk), .second, .val (.int sd), .val (.ref b1), .val (.ref b2), .val (.int xx), .unset, .unset, .unset, .unset, .unset, .unset, .unset, .unset, .unset, .unset] [(.int ys)])) _
    refine Stand.ldcI Xo305 hx hown (mvT hZ (hw _ (List.mem_of_getElem? (i := 26) rfl))) rfl (hb hby at_497) ?_
    show Steps p.tables e below (T303.setTop (mkF m 499 #[.val (.int sd), .val (.int xs), .val (.int ys), .val (.int ws0), .val (.int hs), .val (.long pk), .second, .val (.int sd), .val (.ref b1), .val (.ref b2), .val (.int xx), .unset, .unset, .unset, .unset, .unset, .unset, .unset, .unset, .unset, .unset] [(.int (2147483647 : Int32)), (.int ys)])) _
    refine XS.iand Xo305.here hx rfl (hb hby at_499) rfl ?_
    show Steps p.tables e below (T303.setTop (mkF m 500 #[.val (.int sd), .val (.int xs), .val (.int ys), .val (.int ws0), .val (.int hs), .val (.long pk), .second, .val (.int sd), .val (.ref b1), .val (.ref b2), .val (.int xx), .unset, .unset, .unset, .unset, .unset, .unset, .unset, .unset, .unset, .unset] [(.int (ys &&& (2147483647 : Int32)))])) _
    refine XS.iconst Xo305.here hx rfl (hb hby at_500) ?_
    show Steps p.tables e below (T303.setTop (mkF m 501 #[.val (.int sd), .val (.int xs), .val (.int ys), .val (.int ws0), .val (.int hs), .val (.long pk), .second, .val (.int sd), .val (.ref b1), .val (.ref b2), .val (.int xx), .unset, .unset, .unset, .unset, .unset, .unset, .unset, .unset, .unset, .unset] [(.int (3 : Int32)), (.int (ys &&& (2147483647 : Int32)))])) _
    refine iremM Xo305 hx rfl (hb hby at_501) rfl (by decide) ?_
    show Steps p.tables e below (T303.setTop (mkF m 502 #[.val (.int sd), .val (.int xs), .val (.int ys), .val (.int ws0), .val (.int hs), .val (.long pk), .second, .val (.int sd), .val (.ref b1), .val (.ref b2), .val (.int xx), .unset, .unset, .unset, .unset, .unset, .unset, .unset, .unset, .unset, .unset] [(.int ((ys &&& (2147483647 : Int32)) % (3 : Int32)))])) _
    refine XS.istore Xo305.here hx rfl (hb hby at_502) rfl (l' := #[.val (.int sd), .val (.int xs), .val (.int ys), .val (.int ws0), .val (.int hs), .val (.long pk), .second, .val (.int sd), .val (.ref b1), .val (.ref b2), .val (.int xx), .val (.int ((ys &&& (2147483647 : Int32)) % (3 : Int32))), .unset, .unset, .unset, .unset, .unset, .unset, .unset, .unset, .unset]) rfl ?_
    show Steps p.tables e below (T303.setTop (mkF m 504 #[.val (.int sd), .val (.int xs), .val (.int ys), .val (.int ws0), .val (.int hs), .val (.long pk), .second, .val (.int sd), .val (.ref b1), .val (.ref b2), .val (.int xx), .val (.int ((ys &&& (2147483647 : Int32)) % (3 : Int32))), .unset, .unset, .unset, .unset, .unset, .unset, .unset, .unset, .unset] [])) _
    exact k
  obtain ⟨yy, hn_yy, pre310⟩ : ∃ yy : Int32, yy = ((ys &&& (2147483647 : Int32)) % (3 : Int32)) ∧ ∀ t, Steps p.tables e below (T303.setTop (mkF m 504 #[.val (.int sd), .val (.int xs), .val (.int ys), .val (.int ws0), .val (.int hs), .val (.long pk), .second, .val (.int sd), .val (.ref b1), .val (.ref b2), .val (.int xx), .val (.int yy), .unset, .unset, .unset, .unset, .unset, .unset, .unset, .unset, .unset] [])) t → Steps p.tables e below (s₁.setTop (entryFrame m #[(.int sd), (.int xs), (.int ys), (.int ws0), (.int hs), (.long pk)] maxLocals)) t := ⟨_, rfl, pre309⟩
  obtain ⟨hy0, hy3⟩ := own_mod (N := 3) (n := (3 : Int32)) rfl (by decide) hn_yy
  have nz1 := own_nz4 (m := (4 : Int32)) (M := 4) rfl (by decide) hx0 hx4
  have nz2 := own_nz4 (m := (3 : Int32)) (M := 3) rfl (by decide) hy0 hy3
  have pre311 : ∀ t, Steps p.tables e below (T303.setTop (mkF m 517 #[.val (.int sd), .val (.int xs), .val (.int ys), .val (.int ws0), .val (.int hs), .val (.long pk), .second, .val (.int sd), .val (.ref b1), .val (.ref b2), .val (.int xx), .val (.int yy), .val (.int ((1 : Int32) + ((ws0 &&& (2147483647 : Int32)) % ((4 : Int32) - xx)))), .unset, .unset, .unset, .unset, .unset, .unset, .unset, .unset] [])) t → Steps p.tables e below (s₁.setTop (entryFrame m #[(.int sd), (.int xs), (.int ys), (.int ws0), (.int hs), (.long pk)] maxLocals)) t := by
    intro t k
    refine pre310 t ?_
    refine XS.iconst Xo305.here hx rfl (hb hby at_504) ?_
    show Steps p.tables e below (T303.setTop (mkF m 505 #[.val (.int sd), .val (.int xs), .val (.int ys), .val (.int ws0), .val (.int hs), .val (.long pk), .second, .val (.int sd), .val (.ref b1), .val (.ref b2), .val (.int xx), .val (.int yy), .unset, .unset, .unset, .unset, .unset, .unset, .unset, .unset, .unset] [(.int (1 : Int32))])) _
    refine XS.iloadN Xo305.here hx rfl (hb hby at_505) rfl ?_
    show Steps p.tables e below (T303.setTop (mkF m 506 #[.val (.int sd), .val (.int xs), .val (.int ys), .val (.int ws0), .val (.int hs), .val (.long pk), .second, .val (.int sd), .val (.ref b1), .val (.ref b2), .val (.int xx), .val (.int yy), .unset, .unset, .unset, .unset, .unset, .unset, .unset, .unset, .unset] [(.int ws0), (.int (1 : Int32))])) _
    refine Stand.ldcI Xo305 hx hown (mvT hZ (hw _ (List.mem_of_getElem? (i := 26) rfl))) rfl (hb hby at_506) ?_
    show Steps p.tables e below (T303.setTop (mkF m 508 #[.val (.int sd), .val (.int xs), .val (.int ys), .val (.int ws0), .val (.int hs), .val (.long pk), .second, .val (.int sd), .val (.ref b1), .val (.ref b2), .val (.int xx), .val (.int yy), .unset, .unset, .unset, .unset, .unset, .unset, .unset, .unset, .unset] [(.int (2147483647 : Int32)), (.int ws0), (.int (1 : Int32))])) _
    refine XS.iand Xo305.here hx rfl (hb hby at_508) rfl ?_
    show Steps p.tables e below (T303.setTop (mkF m 509 #[.val (.int sd), .val (.int xs), .val (.int ys), .val (.int ws0), .val (.int hs), .val (.long pk), .second, .val (.int sd), .val (.ref b1), .val (.ref b2), .val (.int xx), .val (.int yy), .unset, .unset, .unset, .unset, .unset, .unset, .unset, .unset, .unset] [(.int (ws0 &&& (2147483647 : Int32))), (.int (1 : Int32))])) _
    refine XS.iconst Xo305.here hx rfl (hb hby at_509) ?_
    show Steps p.tables e below (T303.setTop (mkF m 510 #[.val (.int sd), .val (.int xs), .val (.int ys), .val (.int ws0), .val (.int hs), .val (.long pk), .second, .val (.int sd), .val (.ref b1), .val (.ref b2), .val (.int xx), .val (.int yy), .unset, .unset, .unset, .unset, .unset, .unset, .unset, .unset, .unset] [(.int (4 : Int32)), (.int (ws0 &&& (2147483647 : Int32))), (.int (1 : Int32))])) _
    refine XS.iload Xo305.here hx rfl (hb hby at_510) rfl ?_
    show Steps p.tables e below (T303.setTop (mkF m 512 #[.val (.int sd), .val (.int xs), .val (.int ys), .val (.int ws0), .val (.int hs), .val (.long pk), .second, .val (.int sd), .val (.ref b1), .val (.ref b2), .val (.int xx), .val (.int yy), .unset, .unset, .unset, .unset, .unset, .unset, .unset, .unset, .unset] [(.int xx), (.int (4 : Int32)), (.int (ws0 &&& (2147483647 : Int32))), (.int (1 : Int32))])) _
    refine XS.isub Xo305.here hx rfl (hb hby at_512) rfl ?_
    show Steps p.tables e below (T303.setTop (mkF m 513 #[.val (.int sd), .val (.int xs), .val (.int ys), .val (.int ws0), .val (.int hs), .val (.long pk), .second, .val (.int sd), .val (.ref b1), .val (.ref b2), .val (.int xx), .val (.int yy), .unset, .unset, .unset, .unset, .unset, .unset, .unset, .unset, .unset] [(.int ((4 : Int32) - xx)), (.int (ws0 &&& (2147483647 : Int32))), (.int (1 : Int32))])) _
    refine iremM Xo305 hx rfl (hb hby at_513) rfl nz1 ?_
    show Steps p.tables e below (T303.setTop (mkF m 514 #[.val (.int sd), .val (.int xs), .val (.int ys), .val (.int ws0), .val (.int hs), .val (.long pk), .second, .val (.int sd), .val (.ref b1), .val (.ref b2), .val (.int xx), .val (.int yy), .unset, .unset, .unset, .unset, .unset, .unset, .unset, .unset, .unset] [(.int ((ws0 &&& (2147483647 : Int32)) % ((4 : Int32) - xx))), (.int (1 : Int32))])) _
    refine XS.iadd Xo305.here hx rfl (hb hby at_514) rfl ?_
    show Steps p.tables e below (T303.setTop (mkF m 515 #[.val (.int sd), .val (.int xs), .val (.int ys), .val (.int ws0), .val (.int hs), .val (.long pk), .second, .val (.int sd), .val (.ref b1), .val (.ref b2), .val (.int xx), .val (.int yy), .unset, .unset, .unset, .unset, .unset, .unset, .unset, .unset, .unset] [(.int ((1 : Int32) + ((ws0 &&& (2147483647 : Int32)) % ((4 : Int32) - xx))))])) _
    refine XS.istore Xo305.here hx rfl (hb hby at_515) rfl (l' := #[.val (.int sd), .val (.int xs), .val (.int ys), .val (.int ws0), .val (.int hs), .val (.long pk), .second, .val (.int sd), .val (.ref b1), .val (.ref b2), .val (.int xx), .val (.int yy), .val (.int ((1 : Int32) + ((ws0 &&& (2147483647 : Int32)) % ((4 : Int32) - xx)))), .unset, .unset, .unset, .unset, .unset, .unset, .unset, .unset]) rfl ?_
    show Steps p.tables e below (T303.setTop (mkF m 517 #[.val (.int sd), .val (.int xs), .val (.int ys), .val (.int ws0), .val (.int hs), .val (.long pk), .second, .val (.int sd), .val (.ref b1), .val (.ref b2), .val (.int xx), .val (.int yy), .val (.int ((1 : Int32) + ((ws0 &&& (2147483647 : Int32)) % ((4 : Int32) - xx)))), .unset, .unset, .unset, .unset, .unset, .unset, .unset, .unset] [])) _
    exact k
  obtain ⟨ww, hn_ww, pre312⟩ : ∃ ww : Int32, ww = ((1 : Int32) + ((ws0 &&& (2147483647 : Int32)) % ((4 : Int32) - xx))) ∧ ∀ t, Steps p.tables e below (T303.setTop (mkF m 517 #[.val (.int sd), .val (.int xs), .val (.int ys), .val (.int ws0), .val (.int hs), .val (.long pk), .second, .val (.int sd), .val (.ref b1), .val (.ref b2), .val (.int xx), .val (.int yy), .val (.int ww), .unset, .unset, .unset, .unset, .unset, .unset, .unset, .unset] [])) t → Steps p.tables e below (s₁.setTop (entryFrame m #[(.int sd), (.int xs), (.int ys), (.int ws0), (.int hs), (.long pk)] maxLocals)) t := ⟨_, rfl, pre311⟩
  obtain ⟨hw0, hwx, hw4, hxw⟩ := own_w (m := (4 : Int32)) (M := 4) rfl (by decide) hx0 hx4 hn_ww
  have pre313 : ∀ t, Steps p.tables e below (T303.setTop (mkF m 531 #[.val (.int sd), .val (.int xs), .val (.int ys), .val (.int ws0), .val (.int hs), .val (.long pk), .second, .val (.int sd), .val (.ref b1), .val (.ref b2), .val (.int xx), .val (.int yy), .val (.int ww), .val (.int ((1 : Int32) + ((hs &&& (2147483647 : Int32)) % ((3 : Int32) - yy)))), .unset, .unset, .unset, .unset, .unset, .unset, .unset] [])) t → Steps p.tables e below (s₁.setTop (entryFrame m #[(.int sd), (.int xs), (.int ys), (.int ws0), (.int hs), (.long pk)] maxLocals)) t := by
    intro t k
    refine pre312 t ?_
    refine XS.iconst Xo305.here hx rfl (hb hby at_517) ?_
    show Steps p.tables e below (T303.setTop (mkF m 518 #[.val (.int sd), .val (.int xs), .val (.int ys), .val (.int ws0), .val (.int hs), .val (.long pk), .second, .val (.int sd), .val (.ref b1), .val (.ref b2), .val (.int xx), .val (.int yy), .val (.int ww), .unset, .unset, .unset, .unset, .unset, .unset, .unset, .unset] [(.int (1 : Int32))])) _
    refine XS.iload Xo305.here hx rfl (hb hby at_518) rfl ?_
    show Steps p.tables e below (T303.setTop (mkF m 520 #[.val (.int sd), .val (.int xs), .val (.int ys), .val (.int ws0), .val (.int hs), .val (.long pk), .second, .val (.int sd), .val (.ref b1), .val (.ref b2), .val (.int xx), .val (.int yy), .val (.int ww), .unset, .unset, .unset, .unset, .unset, .unset, .unset, .unset] [(.int hs), (.int (1 : Int32))])) _
    refine Stand.ldcI Xo305 hx hown (mvT hZ (hw _ (List.mem_of_getElem? (i := 26) rfl))) rfl (hb hby at_520) ?_
    show Steps p.tables e below (T303.setTop (mkF m 522 #[.val (.int sd), .val (.int xs), .val (.int ys), .val (.int ws0), .val (.int hs), .val (.long pk), .second, .val (.int sd), .val (.ref b1), .val (.ref b2), .val (.int xx), .val (.int yy), .val (.int ww), .unset, .unset, .unset, .unset, .unset, .unset, .unset, .unset] [(.int (2147483647 : Int32)), (.int hs), (.int (1 : Int32))])) _
    refine XS.iand Xo305.here hx rfl (hb hby at_522) rfl ?_
    show Steps p.tables e below (T303.setTop (mkF m 523 #[.val (.int sd), .val (.int xs), .val (.int ys), .val (.int ws0), .val (.int hs), .val (.long pk), .second, .val (.int sd), .val (.ref b1), .val (.ref b2), .val (.int xx), .val (.int yy), .val (.int ww), .unset, .unset, .unset, .unset, .unset, .unset, .unset, .unset] [(.int (hs &&& (2147483647 : Int32))), (.int (1 : Int32))])) _
    refine XS.iconst Xo305.here hx rfl (hb hby at_523) ?_
    show Steps p.tables e below (T303.setTop (mkF m 524 #[.val (.int sd), .val (.int xs), .val (.int ys), .val (.int ws0), .val (.int hs), .val (.long pk), .second, .val (.int sd), .val (.ref b1), .val (.ref b2), .val (.int xx), .val (.int yy), .val (.int ww), .unset, .unset, .unset, .unset, .unset, .unset, .unset, .unset] [(.int (3 : Int32)), (.int (hs &&& (2147483647 : Int32))), (.int (1 : Int32))])) _
    refine XS.iload Xo305.here hx rfl (hb hby at_524) rfl ?_
    show Steps p.tables e below (T303.setTop (mkF m 526 #[.val (.int sd), .val (.int xs), .val (.int ys), .val (.int ws0), .val (.int hs), .val (.long pk), .second, .val (.int sd), .val (.ref b1), .val (.ref b2), .val (.int xx), .val (.int yy), .val (.int ww), .unset, .unset, .unset, .unset, .unset, .unset, .unset, .unset] [(.int yy), (.int (3 : Int32)), (.int (hs &&& (2147483647 : Int32))), (.int (1 : Int32))])) _
    refine XS.isub Xo305.here hx rfl (hb hby at_526) rfl ?_
    show Steps p.tables e below (T303.setTop (mkF m 527 #[.val (.int sd), .val (.int xs), .val (.int ys), .val (.int ws0), .val (.int hs), .val (.long pk), .second, .val (.int sd), .val (.ref b1), .val (.ref b2), .val (.int xx), .val (.int yy), .val (.int ww), .unset, .unset, .unset, .unset, .unset, .unset, .unset, .unset] [(.int ((3 : Int32) - yy)), (.int (hs &&& (2147483647 : Int32))), (.int (1 : Int32))])) _
    refine iremM Xo305 hx rfl (hb hby at_527) rfl nz2 ?_
    show Steps p.tables e below (T303.setTop (mkF m 528 #[.val (.int sd), .val (.int xs), .val (.int ys), .val (.int ws0), .val (.int hs), .val (.long pk), .second, .val (.int sd), .val (.ref b1), .val (.ref b2), .val (.int xx), .val (.int yy), .val (.int ww), .unset, .unset, .unset, .unset, .unset, .unset, .unset, .unset] [(.int ((hs &&& (2147483647 : Int32)) % ((3 : Int32) - yy))), (.int (1 : Int32))])) _
    refine XS.iadd Xo305.here hx rfl (hb hby at_528) rfl ?_
    show Steps p.tables e below (T303.setTop (mkF m 529 #[.val (.int sd), .val (.int xs), .val (.int ys), .val (.int ws0), .val (.int hs), .val (.long pk), .second, .val (.int sd), .val (.ref b1), .val (.ref b2), .val (.int xx), .val (.int yy), .val (.int ww), .unset, .unset, .unset, .unset, .unset, .unset, .unset, .unset] [(.int ((1 : Int32) + ((hs &&& (2147483647 : Int32)) % ((3 : Int32) - yy))))])) _
    refine XS.istore Xo305.here hx rfl (hb hby at_529) rfl (l' := #[.val (.int sd), .val (.int xs), .val (.int ys), .val (.int ws0), .val (.int hs), .val (.long pk), .second, .val (.int sd), .val (.ref b1), .val (.ref b2), .val (.int xx), .val (.int yy), .val (.int ww), .val (.int ((1 : Int32) + ((hs &&& (2147483647 : Int32)) % ((3 : Int32) - yy)))), .unset, .unset, .unset, .unset, .unset, .unset, .unset]) rfl ?_
    show Steps p.tables e below (T303.setTop (mkF m 531 #[.val (.int sd), .val (.int xs), .val (.int ys), .val (.int ws0), .val (.int hs), .val (.long pk), .second, .val (.int sd), .val (.ref b1), .val (.ref b2), .val (.int xx), .val (.int yy), .val (.int ww), .val (.int ((1 : Int32) + ((hs &&& (2147483647 : Int32)) % ((3 : Int32) - yy)))), .unset, .unset, .unset, .unset, .unset, .unset, .unset] [])) _
    exact k
  obtain ⟨hh, hn_hh, pre314⟩ : ∃ hh : Int32, hh = ((1 : Int32) + ((hs &&& (2147483647 : Int32)) % ((3 : Int32) - yy))) ∧ ∀ t, Steps p.tables e below (T303.setTop (mkF m 531 #[.val (.int sd), .val (.int xs), .val (.int ys), .val (.int ws0), .val (.int hs), .val (.long pk), .second, .val (.int sd), .val (.ref b1), .val (.ref b2), .val (.int xx), .val (.int yy), .val (.int ww), .val (.int hh), .unset, .unset, .unset, .unset, .unset, .unset, .unset] [])) t → Steps p.tables e below (s₁.setTop (entryFrame m #[(.int sd), (.int xs), (.int ys), (.int ws0), (.int hs), (.long pk)] maxLocals)) t := ⟨_, rfl, pre313⟩
  obtain ⟨hh0, hhy, hh4, hyh⟩ := own_w (m := (3 : Int32)) (M := 3) rfl (by decide) hy0 hy3 hn_hh
  have nzw := own_lnz hw0
  have nzh := own_lnz hh0
  have pre315 : ∀ t, Steps p.tables e below (T303.setTop (mkF m 544 #[.val (.int sd), .val (.int xs), .val (.int ys), .val (.int ws0), .val (.int hs), .val (.long pk), .second, .val (.int sd), .val (.ref b1), .val (.ref b2), .val (.int xx), .val (.int yy), .val (.int ww), .val (.int hh), .val (.int (((pk &&& (2147483647 : Int64)) - ((pk &&& (2147483647 : Int64)) / (ww.toInt64)) * (ww.toInt64)).toInt32)), .unset, .unset, .unset, .unset, .unset, .unset] [])) t → Steps p.tables e below (s₁.setTop (entryFrame m #[(.int sd), (.int xs), (.int ys), (.int ws0), (.int hs), (.long pk)] maxLocals)) t := by
    intro t k
    refine pre314 t ?_
    refine XT.lload Xo305.here hx rfl (hb hby at_531) rfl ?_
    show Steps p.tables e below (T303.setTop (mkF m 533 #[.val (.int sd), .val (.int xs), .val (.int ys), .val (.int ws0), .val (.int hs), .val (.long pk), .second, .val (.int sd), .val (.ref b1), .val (.ref b2), .val (.int xx), .val (.int yy), .val (.int ww), .val (.int hh), .unset, .unset, .unset, .unset, .unset, .unset, .unset] [(.long pk)])) _
    refine Stand.ldc2J Xo305 hx hown (mvT hZ (hw _ (List.mem_of_getElem? (i := 27) rfl))) rfl (hb hby at_533) ?_
    show Steps p.tables e below (T303.setTop (mkF m 536 #[.val (.int sd), .val (.int xs), .val (.int ys), .val (.int ws0), .val (.int hs), .val (.long pk), .second, .val (.int sd), .val (.ref b1), .val (.ref b2), .val (.int xx), .val (.int yy), .val (.int ww), .val (.int hh), .unset, .unset, .unset, .unset, .unset, .unset, .unset] [(.long (2147483647 : Int64)), (.long pk)])) _
    refine XT.land Xo305.here hx rfl (hb hby at_536) rfl ?_
    show Steps p.tables e below (T303.setTop (mkF m 537 #[.val (.int sd), .val (.int xs), .val (.int ys), .val (.int ws0), .val (.int hs), .val (.long pk), .second, .val (.int sd), .val (.ref b1), .val (.ref b2), .val (.int xx), .val (.int yy), .val (.int ww), .val (.int hh), .unset, .unset, .unset, .unset, .unset, .unset, .unset] [(.long (pk &&& (2147483647 : Int64)))])) _
    refine XS.iload Xo305.here hx rfl (hb hby at_537) rfl ?_
    show Steps p.tables e below (T303.setTop (mkF m 539 #[.val (.int sd), .val (.int xs), .val (.int ys), .val (.int ws0), .val (.int hs), .val (.long pk), .second, .val (.int sd), .val (.ref b1), .val (.ref b2), .val (.int xx), .val (.int yy), .val (.int ww), .val (.int hh), .unset, .unset, .unset, .unset, .unset, .unset, .unset] [(.int ww), (.long (pk &&& (2147483647 : Int64)))])) _
    refine XT.i2l Xo305.here hx rfl (hb hby at_539) rfl ?_
    show Steps p.tables e below (T303.setTop (mkF m 540 #[.val (.int sd), .val (.int xs), .val (.int ys), .val (.int ws0), .val (.int hs), .val (.long pk), .second, .val (.int sd), .val (.ref b1), .val (.ref b2), .val (.int xx), .val (.int yy), .val (.int ww), .val (.int hh), .unset, .unset, .unset, .unset, .unset, .unset, .unset] [(.long (ww.toInt64)), (.long (pk &&& (2147483647 : Int64)))])) _
    refine XT.lrem Xo305.here hx rfl (hb hby at_540) rfl nzw ?_
    show Steps p.tables e below (T303.setTop (mkF m 541 #[.val (.int sd), .val (.int xs), .val (.int ys), .val (.int ws0), .val (.int hs), .val (.long pk), .second, .val (.int sd), .val (.ref b1), .val (.ref b2), .val (.int xx), .val (.int yy), .val (.int ww), .val (.int hh), .unset, .unset, .unset, .unset, .unset, .unset, .unset] [(.long ((pk &&& (2147483647 : Int64)) - ((pk &&& (2147483647 : Int64)) / (ww.toInt64)) * (ww.toInt64)))])) _
    refine XT.l2i Xo305.here hx rfl (hb hby at_541) rfl ?_
    show Steps p.tables e below (T303.setTop (mkF m 542 #[.val (.int sd), .val (.int xs), .val (.int ys), .val (.int ws0), .val (.int hs), .val (.long pk), .second, .val (.int sd), .val (.ref b1), .val (.ref b2), .val (.int xx), .val (.int yy), .val (.int ww), .val (.int hh), .unset, .unset, .unset, .unset, .unset, .unset, .unset] [(.int (((pk &&& (2147483647 : Int64)) - ((pk &&& (2147483647 : Int64)) / (ww.toInt64)) * (ww.toInt64)).toInt32))])) _
    refine XS.istore Xo305.here hx rfl (hb hby at_542) rfl (l' := #[.val (.int sd), .val (.int xs), .val (.int ys), .val (.int ws0), .val (.int hs), .val (.long pk), .second, .val (.int sd), .val (.ref b1), .val (.ref b2), .val (.int xx), .val (.int yy), .val (.int ww), .val (.int hh), .val (.int (((pk &&& (2147483647 : Int64)) - ((pk &&& (2147483647 : Int64)) / (ww.toInt64)) * (ww.toInt64)).toInt32)), .unset, .unset, .unset, .unset, .unset, .unset]) rfl ?_
    show Steps p.tables e below (T303.setTop (mkF m 544 #[.val (.int sd), .val (.int xs), .val (.int ys), .val (.int ws0), .val (.int hs), .val (.long pk), .second, .val (.int sd), .val (.ref b1), .val (.ref b2), .val (.int xx), .val (.int yy), .val (.int ww), .val (.int hh), .val (.int (((pk &&& (2147483647 : Int64)) - ((pk &&& (2147483647 : Int64)) / (ww.toInt64)) * (ww.toInt64)).toInt32)), .unset, .unset, .unset, .unset, .unset, .unset] [])) _
    exact k
  obtain ⟨px, hn_px, pre316⟩ : ∃ px : Int32, px = (((pk &&& (2147483647 : Int64)) - ((pk &&& (2147483647 : Int64)) / (ww.toInt64)) * (ww.toInt64)).toInt32) ∧ ∀ t, Steps p.tables e below (T303.setTop (mkF m 544 #[.val (.int sd), .val (.int xs), .val (.int ys), .val (.int ws0), .val (.int hs), .val (.long pk), .second, .val (.int sd), .val (.ref b1), .val (.ref b2), .val (.int xx), .val (.int yy), .val (.int ww), .val (.int hh), .val (.int px), .unset, .unset, .unset, .unset, .unset, .unset] [])) t → Steps p.tables e below (s₁.setTop (entryFrame m #[(.int sd), (.int xs), (.int ys), (.int ws0), (.int hs), (.long pk)] maxLocals)) t := ⟨_, rfl, pre315⟩
  obtain ⟨hpx0, hpx1⟩ := own_lmod hw0 hn_px
  have pre317 : ∀ t, Steps p.tables e below (T303.setTop (mkF m 560 #[.val (.int sd), .val (.int xs), .val (.int ys), .val (.int ws0), .val (.int hs), .val (.long pk), .second, .val (.int sd), .val (.ref b1), .val (.ref b2), .val (.int xx), .val (.int yy), .val (.int ww), .val (.int hh), .val (.int px), .val (.int ((((XT.ushrL pk (31 : Int32)) &&& (2147483647 : Int64)) - (((XT.ushrL pk (31 : Int32)) &&& (2147483647 : Int64)) / (hh.toInt64)) * (hh.toInt64)).toInt32)), .unset, .unset, .unset, .unset, .unset] [])) t → Steps p.tables e below (s₁.setTop (entryFrame m #[(.int sd), (.int xs), (.int ys), (.int ws0), (.int hs), (.long pk)] maxLocals)) t := by
    intro t k
    refine pre316 t ?_
    refine XT.lload Xo305.here hx rfl (hb hby at_544) rfl ?_
    show Steps p.tables e below (T303.setTop (mkF m 546 #[.val (.int sd), .val (.int xs), .val (.int ys), .val (.int ws0), .val (.int hs), .val (.long pk), .second, .val (.int sd), .val (.ref b1), .val (.ref b2), .val (.int xx), .val (.int yy), .val (.int ww), .val (.int hh), .val (.int px), .unset, .unset, .unset, .unset, .unset, .unset] [(.long pk)])) _
    refine XS.bipush Xo305.here hx rfl (hb hby at_546) ?_
    show Steps p.tables e below (T303.setTop (mkF m 548 #[.val (.int sd), .val (.int xs), .val (.int ys), .val (.int ws0), .val (.int hs), .val (.long pk), .second, .val (.int sd), .val (.ref b1), .val (.ref b2), .val (.int xx), .val (.int yy), .val (.int ww), .val (.int hh), .val (.int px), .unset, .unset, .unset, .unset, .unset, .unset] [(.int (31 : Int32)), (.long pk)])) _
    refine XT.lushr Xo305.here hx rfl (hb hby at_548) rfl ?_
    show Steps p.tables e below (T303.setTop (mkF m 549 #[.val (.int sd), .val (.int xs), .val (.int ys), .val (.int ws0), .val (.int hs), .val (.long pk), .second, .val (.int sd), .val (.ref b1), .val (.ref b2), .val (.int xx), .val (.int yy), .val (.int ww), .val (.int hh), .val (.int px), .unset, .unset, .unset, .unset, .unset, .unset] [(.long (XT.ushrL pk (31 : Int32)))])) _
    refine Stand.ldc2J Xo305 hx hown (mvT hZ (hw _ (List.mem_of_getElem? (i := 27) rfl))) rfl (hb hby at_549) ?_
    show Steps p.tables e below (T303.setTop (mkF m 552 #[.val (.int sd), .val (.int xs), .val (.int ys), .val (.int ws0), .val (.int hs), .val (.long pk), .second, .val (.int sd), .val (.ref b1), .val (.ref b2), .val (.int xx), .val (.int yy), .val (.int ww), .val (.int hh), .val (.int px), .unset, .unset, .unset, .unset, .unset, .unset] [(.long (2147483647 : Int64)), (.long (XT.ushrL pk (31 : Int32)))])) _
    refine XT.land Xo305.here hx rfl (hb hby at_552) rfl ?_
    show Steps p.tables e below (T303.setTop (mkF m 553 #[.val (.int sd), .val (.int xs), .val (.int ys), .val (.int ws0), .val (.int hs), .val (.long pk), .second, .val (.int sd), .val (.ref b1), .val (.ref b2), .val (.int xx), .val (.int yy), .val (.int ww), .val (.int hh), .val (.int px), .unset, .unset, .unset, .unset, .unset, .unset] [(.long ((XT.ushrL pk (31 : Int32)) &&& (2147483647 : Int64)))])) _
    refine XS.iload Xo305.here hx rfl (hb hby at_553) rfl ?_
    show Steps p.tables e below (T303.setTop (mkF m 555 #[.val (.int sd), .val (.int xs), .val (.int ys), .val (.int ws0), .val (.int hs), .val (.long pk), .second, .val (.int sd), .val (.ref b1), .val (.ref b2), .val (.int xx), .val (.int yy), .val (.int ww), .val (.int hh), .val (.int px), .unset, .unset, .unset, .unset, .unset, .unset] [(.int hh), (.long ((XT.ushrL pk (31 : Int32)) &&& (2147483647 : Int64)))])) _
    refine XT.i2l Xo305.here hx rfl (hb hby at_555) rfl ?_
    show Steps p.tables e below (T303.setTop (mkF m 556 #[.val (.int sd), .val (.int xs), .val (.int ys), .val (.int ws0), .val (.int hs), .val (.long pk), .second, .val (.int sd), .val (.ref b1), .val (.ref b2), .val (.int xx), .val (.int yy), .val (.int ww), .val (.int hh), .val (.int px), .unset, .unset, .unset, .unset, .unset, .unset] [(.long (hh.toInt64)), (.long ((XT.ushrL pk (31 : Int32)) &&& (2147483647 : Int64)))])) _
    refine XT.lrem Xo305.here hx rfl (hb hby at_556) rfl nzh ?_
    show Steps p.tables e below (T303.setTop (mkF m 557 #[.val (.int sd), .val (.int xs), .val (.int ys), .val (.int ws0), .val (.int hs), .val (.long pk), .second, .val (.int sd), .val (.ref b1), .val (.ref b2), .val (.int xx), .val (.int yy), .val (.int ww), .val (.int hh), .val (.int px), .unset, .unset, .unset, .unset, .unset, .unset] [(.long (((XT.ushrL pk (31 : Int32)) &&& (2147483647 : Int64)) - (((XT.ushrL pk (31 : Int32)) &&& (2147483647 : Int64)) / (hh.toInt64)) * (hh.toInt64)))])) _
    refine XT.l2i Xo305.here hx rfl (hb hby at_557) rfl ?_
    show Steps p.tables e below (T303.setTop (mkF m 558 #[.val (.int sd), .val (.int xs), .val (.int ys), .val (.int ws0), .val (.int hs), .val (.long pk), .second, .val (.int sd), .val (.ref b1), .val (.ref b2), .val (.int xx), .val (.int yy), .val (.int ww), .val (.int hh), .val (.int px), .unset, .unset, .unset, .unset, .unset, .unset] [(.int ((((XT.ushrL pk (31 : Int32)) &&& (2147483647 : Int64)) - (((XT.ushrL pk (31 : Int32)) &&& (2147483647 : Int64)) / (hh.toInt64)) * (hh.toInt64)).toInt32))])) _
    refine XS.istore Xo305.here hx rfl (hb hby at_558) rfl (l' := #[.val (.int sd), .val (.int xs), .val (.int ys), .val (.int ws0), .val (.int hs), .val (.long pk), .second, .val (.int sd), .val (.ref b1), .val (.ref b2), .val (.int xx), .val (.int yy), .val (.int ww), .val (.int hh), .val (.int px), .val (.int ((((XT.ushrL pk (31 : Int32)) &&& (2147483647 : Int64)) - (((XT.ushrL pk (31 : Int32)) &&& (2147483647 : Int64)) / (hh.toInt64)) * (hh.toInt64)).toInt32)), .unset, .unset, .unset, .unset, .unset]) rfl ?_
    show Steps p.tables e below (T303.setTop (mkF m 560 #[.val (.int sd), .val (.int xs), .val (.int ys), .val (.int ws0), .val (.int hs), .val (.long pk), .second, .val (.int sd), .val (.ref b1), .val (.ref b2), .val (.int xx), .val (.int yy), .val (.int ww), .val (.int hh), .val (.int px), .val (.int ((((XT.ushrL pk (31 : Int32)) &&& (2147483647 : Int64)) - (((XT.ushrL pk (31 : Int32)) &&& (2147483647 : Int64)) / (hh.toInt64)) * (hh.toInt64)).toInt32)), .unset, .unset, .unset, .unset, .unset] [])) _
    exact k
  obtain ⟨py, hn_py, pre318⟩ : ∃ py : Int32, py = ((((XT.ushrL pk (31 : Int32)) &&& (2147483647 : Int64)) - (((XT.ushrL pk (31 : Int32)) &&& (2147483647 : Int64)) / (hh.toInt64)) * (hh.toInt64)).toInt32) ∧ ∀ t, Steps p.tables e below (T303.setTop (mkF m 560 #[.val (.int sd), .val (.int xs), .val (.int ys), .val (.int ws0), .val (.int hs), .val (.long pk), .second, .val (.int sd), .val (.ref b1), .val (.ref b2), .val (.int xx), .val (.int yy), .val (.int ww), .val (.int hh), .val (.int px), .val (.int py), .unset, .unset, .unset, .unset, .unset] [])) t → Steps p.tables e below (s₁.setTop (entryFrame m #[(.int sd), (.int xs), (.int ys), (.int ws0), (.int hs), (.long pk)] maxLocals)) t := ⟨_, rfl, pre317⟩
  obtain ⟨hpy0, hpy1⟩ := own_lmod hh0 hn_py
  have pre319 : ∀ t, Steps p.tables e below (T303.setTop (mkF m 572 #[.val (.int sd), .val (.int xs), .val (.int ys), .val (.int ws0), .val (.int hs), .val (.long pk), .second, .val (.int sd), .val (.ref b1), .val (.ref b2), .val (.int xx), .val (.int yy), .val (.int ww), .val (.int hh), .val (.int px), .val (.int py), .val (.int (((XT.ushrL pk (62 : Int32)) &&& (3 : Int64)).toInt32)), .unset, .unset, .unset, .unset] [])) t → Steps p.tables e below (s₁.setTop (entryFrame m #[(.int sd), (.int xs), (.int ys), (.int ws0), (.int hs), (.long pk)] maxLocals)) t := by
    intro t k
    refine pre318 t ?_
    refine XT.lload Xo305.here hx rfl (hb hby at_560) rfl ?_
    show Steps p.tables e below (T303.setTop (mkF m 562 #[.val (.int sd), .val (.int xs), .val (.int ys), .val (.int ws0), .val (.int hs), .val (.long pk), .second, .val (.int sd), .val (.ref b1), .val (.ref b2), .val (.int xx), .val (.int yy), .val (.int ww), .val (.int hh), .val (.int px), .val (.int py), .unset, .unset, .unset, .unset, .unset] [(.long pk)])) _
    refine XS.bipush Xo305.here hx rfl (hb hby at_562) ?_
    show Steps p.tables e below (T303.setTop (mkF m 564 #[.val (.int sd), .val (.int xs), .val (.int ys), .val (.int ws0), .val (.int hs), .val (.long pk), .second, .val (.int sd), .val (.ref b1), .val (.ref b2), .val (.int xx), .val (.int yy), .val (.int ww), .val (.int hh), .val (.int px), .val (.int py), .unset, .unset, .unset, .unset, .unset] [(.int (62 : Int32)), (.long pk)])) _
    refine XT.lushr Xo305.here hx rfl (hb hby at_564) rfl ?_
    show Steps p.tables e below (T303.setTop (mkF m 565 #[.val (.int sd), .val (.int xs), .val (.int ys), .val (.int ws0), .val (.int hs), .val (.long pk), .second, .val (.int sd), .val (.ref b1), .val (.ref b2), .val (.int xx), .val (.int yy), .val (.int ww), .val (.int hh), .val (.int px), .val (.int py), .unset, .unset, .unset, .unset, .unset] [(.long (XT.ushrL pk (62 : Int32)))])) _
    refine Stand.ldc2J Xo305 hx hown (mvT hZ (hw _ (List.mem_of_getElem? (i := 28) rfl))) rfl (hb hby at_565) ?_
    show Steps p.tables e below (T303.setTop (mkF m 568 #[.val (.int sd), .val (.int xs), .val (.int ys), .val (.int ws0), .val (.int hs), .val (.long pk), .second, .val (.int sd), .val (.ref b1), .val (.ref b2), .val (.int xx), .val (.int yy), .val (.int ww), .val (.int hh), .val (.int px), .val (.int py), .unset, .unset, .unset, .unset, .unset] [(.long (3 : Int64)), (.long (XT.ushrL pk (62 : Int32)))])) _
    refine XT.land Xo305.here hx rfl (hb hby at_568) rfl ?_
    show Steps p.tables e below (T303.setTop (mkF m 569 #[.val (.int sd), .val (.int xs), .val (.int ys), .val (.int ws0), .val (.int hs), .val (.long pk), .second, .val (.int sd), .val (.ref b1), .val (.ref b2), .val (.int xx), .val (.int yy), .val (.int ww), .val (.int hh), .val (.int px), .val (.int py), .unset, .unset, .unset, .unset, .unset] [(.long ((XT.ushrL pk (62 : Int32)) &&& (3 : Int64)))])) _
    refine XT.l2i Xo305.here hx rfl (hb hby at_569) rfl ?_
    show Steps p.tables e below (T303.setTop (mkF m 570 #[.val (.int sd), .val (.int xs), .val (.int ys), .val (.int ws0), .val (.int hs), .val (.long pk), .second, .val (.int sd), .val (.ref b1), .val (.ref b2), .val (.int xx), .val (.int yy), .val (.int ww), .val (.int hh), .val (.int px), .val (.int py), .unset, .unset, .unset, .unset, .unset] [(.int (((XT.ushrL pk (62 : Int32)) &&& (3 : Int64)).toInt32))])) _
    refine XS.istore Xo305.here hx rfl (hb hby at_570) rfl (l' := #[.val (.int sd), .val (.int xs), .val (.int ys), .val (.int ws0), .val (.int hs), .val (.long pk), .second, .val (.int sd), .val (.ref b1), .val (.ref b2), .val (.int xx), .val (.int yy), .val (.int ww), .val (.int hh), .val (.int px), .val (.int py), .val (.int (((XT.ushrL pk (62 : Int32)) &&& (3 : Int64)).toInt32)), .unset, .unset, .unset, .unset]) rfl ?_
    show Steps p.tables e below (T303.setTop (mkF m 572 #[.val (.int sd), .val (.int xs), .val (.int ys), .val (.int ws0), .val (.int hs), .val (.long pk), .second, .val (.int sd), .val (.ref b1), .val (.ref b2), .val (.int xx), .val (.int yy), .val (.int ww), .val (.int hh), .val (.int px), .val (.int py), .val (.int (((XT.ushrL pk (62 : Int32)) &&& (3 : Int64)).toInt32)), .unset, .unset, .unset, .unset] [])) _
    exact k
  obtain ⟨kx, hn_kx, pre320⟩ : ∃ kx : Int32, kx = (((XT.ushrL pk (62 : Int32)) &&& (3 : Int64)).toInt32) ∧ ∀ t, Steps p.tables e below (T303.setTop (mkF m 572 #[.val (.int sd), .val (.int xs), .val (.int ys), .val (.int ws0), .val (.int hs), .val (.long pk), .second, .val (.int sd), .val (.ref b1), .val (.ref b2), .val (.int xx), .val (.int yy), .val (.int ww), .val (.int hh), .val (.int px), .val (.int py), .val (.int kx), .unset, .unset, .unset, .unset] [])) t → Steps p.tables e below (s₁.setTop (entryFrame m #[(.int sd), (.int xs), (.int ys), (.int ws0), (.int hs), (.long pk)] maxLocals)) t := ⟨_, rfl, pre319⟩
  obtain ⟨hk0, hk4⟩ := own_k hn_kx
  obtain ⟨hw1, hw2⟩ := own_ge hw0
  have pre322 : ∀ t, Steps p.tables e below (T303.setTop (mkF m 582 #[.val (.int sd), .val (.int xs), .val (.int ys), .val (.int ws0), .val (.int hs), .val (.long pk), .second, .val (.int sd), .val (.ref b1), .val (.ref b2), .val (.int xx), .val (.int yy), .val (.int ww), .val (.int hh), .val (.int px), .val (.int py), .val (.int kx), .unset, .unset, .unset, .unset] [(.int hh), (.int ww), (.int yy), (.int xx), (.ref b2)])) t → Steps p.tables e below (s₁.setTop (entryFrame m #[(.int sd), (.int xs), (.int ys), (.int ws0), (.int hs), (.long pk)] maxLocals)) t := by
    intro t k
    refine pre320 t ?_
    refine XS.aload Xo305.here hx rfl (hb hby at_572) rfl rfl ?_
    show Steps p.tables e below (T303.setTop (mkF m 574 #[.val (.int sd), .val (.int xs), .val (.int ys), .val (.int ws0), .val (.int hs), .val (.long pk), .second, .val (.int sd), .val (.ref b1), .val (.ref b2), .val (.int xx), .val (.int yy), .val (.int ww), .val (.int hh), .val (.int px), .val (.int py), .val (.int kx), .unset, .unset, .unset, .unset] [(.ref b2)])) _
    refine XS.iload Xo305.here hx rfl (hb hby at_574) rfl ?_
    show Steps p.tables e below (T303.setTop (mkF m 576 #[.val (.int sd), .val (.int xs), .val (.int ys), .val (.int ws0), .val (.int hs), .val (.long pk), .second, .val (.int sd), .val (.ref b1), .val (.ref b2), .val (.int xx), .val (.int yy), .val (.int ww), .val (.int hh), .val (.int px), .val (.int py), .val (.int kx), .unset, .unset, .unset, .unset] [(.int xx), (.ref b2)])) _
    refine XS.iload Xo305.here hx rfl (hb hby at_576) rfl ?_
    show Steps p.tables e below (T303.setTop (mkF m 578 #[.val (.int sd), .val (.int xs), .val (.int ys), .val (.int ws0), .val (.int hs), .val (.long pk), .second, .val (.int sd), .val (.ref b1), .val (.ref b2), .val (.int xx), .val (.int yy), .val (.int ww), .val (.int hh), .val (.int px), .val (.int py), .val (.int kx), .unset, .unset, .unset, .unset] [(.int yy), (.int xx), (.ref b2)])) _
    refine XS.iload Xo305.here hx rfl (hb hby at_578) rfl ?_
    show Steps p.tables e below (T303.setTop (mkF m 580 #[.val (.int sd), .val (.int xs), .val (.int ys), .val (.int ws0), .val (.int hs), .val (.long pk), .second, .val (.int sd), .val (.ref b1), .val (.ref b2), .val (.int xx), .val (.int yy), .val (.int ww), .val (.int hh), .val (.int px), .val (.int py), .val (.int kx), .unset, .unset, .unset, .unset] [(.int ww), (.int yy), (.int xx), (.ref b2)])) _
    refine XS.iload Xo305.here hx rfl (hb hby at_580) rfl ?_
    show Steps p.tables e below (T303.setTop (mkF m 582 #[.val (.int sd), .val (.int xs), .val (.int ys), .val (.int ws0), .val (.int hs), .val (.long pk), .second, .val (.int sd), .val (.ref b1), .val (.ref b2), .val (.int xx), .val (.int yy), .val (.int ww), .val (.int hh), .val (.int px), .val (.int py), .val (.int kx), .unset, .unset, .unset, .unset] [(.int hh), (.int ww), (.int yy), (.int xx), (.ref b2)])) _
    exact k
  rcases own_h3 hh0 hyh with hq | hq | hq
  · subst hq
    have hpy2 : py.toNatClampNeg < 1 := hpy1
    have hyh2 : yy.toNatClampNeg + 1 ≤ 3 := hyh
    obtain ⟨cq324, kq324, q324a, q324b, q324c⟩ := isOf hZ e303 E306_1
    obtain ⟨_, _, ⟨T324, L324, k324, n324⟩, -, X324, ⟨Lc324, hQ324, l324, y324, z324⟩, st324⟩ := Xo305.virtualBack hx (y := (⟨"com/example/facetwork/facetwork/image/RgbaImage", "crop", "(IIII)Lcom/example/facetwork/facetwork/image/RgbaImage;"⟩ : MethodName)) (z := (⟨"com/example/facetwork/facetwork/image/RgbaImage", "crop", "(IIII)Lcom/example/facetwork/facetwork/image/RgbaImage;"⟩ : MethodName)) hown (mvT hZ (hw _ (List.mem_of_getElem? (i := 29) rfl))) (mvT hZ (hw _ (List.mem_of_getElem? (i := 30) rfl))) (notFace_of_selects (args := #[]) (mvT hZ (hw _ (List.mem_of_getElem? (i := 32) rfl)))) (mvT hZ (hw _ (List.mem_of_getElem? (i := 32) rfl))) (mvT hZ (hw _ (List.mem_of_getElem? (i := 31) rfl))) (by decide) (backOf (W := 0) (rm3h1 l Z a0 hw [] b2 xx yy ww pa cA3 (own_src sd) h303 n0 Z306 Fa303 Fb303 Fc303 Vq303 hx0 (by omega) hy0 (by omega) hw0 hwx hhy) hZ (hw _ (List.mem_of_getElem? (i := 33) rfl)) (hw _ (List.mem_of_getElem? (i := 3) rfl)) (by decide) (by decide)) q324a q324c (g := (mkF m 582 #[.val (.int sd), .val (.int xs), .val (.int ys), .val (.int ws0), .val (.int hs), .val (.long pk), .second, .val (.int sd), .val (.ref b1), .val (.ref b2), .val (.int xx), .val (.int yy), .val (.int ww), .val (.int (1 : Int32)), .val (.int px), .val (.int py), .val (.int kx), .unset, .unset, .unset, .unset] [(.int (1 : Int32)), (.int ww), (.int yy), (.int xx), (.ref b2)])) rfl (by rw [hml]; rfl) (Steps.refl _) (argsL := [(.int xx), (.int yy), (.int ww), (.int (1 : Int32))]) (rest := []) (lenOf pd_crop rfl) rfl (by show 2 * 0 + _ ≤ _; exact Nat.le_of_eq rfl) (hb hby at_582) (fun _ _ => ⟨rfl, e303, (by decide : 3 + 3 ≤ _), (by decide : 99 + 99 ≤ _)⟩)
    dsimp only [Pt.U, Pt.locs, Pt.cells, Pt.slots] at X324 l324 y324 z324 st324 hQ324
    subst l324 y324 z324
    obtain ⟨im, pb, kb, ud, rfl, Nq324, Kq324, Eq324, Fa324, Fb324, Fc324, Ep324, Vp324, Rq324⟩ := hQ324
    have N324 := Fr.app No305 Nq324
    have pre325 : ∀ t, Steps p.tables e below (T324.setTop (mkF m 585 #[.val (.int sd), .val (.int xs), .val (.int ys), .val (.int ws0), .val (.int hs), .val (.long pk), .second, .val (.int sd), .val (.ref b1), .val (.ref b2), .val (.int xx), .val (.int yy), .val (.int ww), .val (.int (1 : Int32)), .val (.int px), .val (.int py), .val (.int kx), .unset, .unset, .unset, .unset] [(.ref im)])) t → Steps p.tables e below (s₁.setTop (entryFrame m #[(.int sd), (.int xs), (.int ys), (.int ws0), (.int hs), (.long pk)] maxLocals)) t := fun t k => pre322 t (st324.trans k)
    obtain ⟨Lo326, Xo326, No326⟩ : ∃ L, Stand p l e room_1 s m #[(.int sd), (.int xs), (.int ys), (.int ws0), (.int hs), (.long pk)] below meth c T324 L 6 198 ∧ Fr n0 L := ⟨_, X324, N324⟩
    obtain ⟨h324, e324⟩ : ∃ z, T324.heap = z := ⟨_, rfl⟩
    rw [e324] at Kq324 Eq324 Fa324 Fb324 Fc324 Ep324 Vp324
    have Z327 : n0 ≤ h324.size := (Nat.le_trans Z306 Kq324.1)
    have pre329 : ∀ t, Steps p.tables e below (T324.setTop (mkF m 589 #[.val (.int sd), .val (.int xs), .val (.int ys), .val (.int ws0), .val (.int hs), .val (.long pk), .second, .val (.int sd), .val (.ref b1), .val (.ref b2), .val (.int xx), .val (.int yy), .val (.int ww), .val (.int (1 : Int32)), .val (.int px), .val (.int py), .val (.int kx), .val (.ref im), .unset, .unset, .unset] [(.ref im)])) t → Steps p.tables e below (s₁.setTop (entryFrame m #[(.int sd), (.int xs), (.int ys), (.int ws0), (.int hs), (.long pk)] maxLocals)) t := by
      intro t k
      refine pre325 t ?_
      refine XS.astore Xo326.here hx rfl (hb hby at_585) rfl rfl (l' := #[.val (.int sd), .val (.int xs), .val (.int ys), .val (.int ws0), .val (.int hs), .val (.long pk), .second, .val (.int sd), .val (.ref b1), .val (.ref b2), .val (.int xx), .val (.int yy), .val (.int ww), .val (.int (1 : Int32)), .val (.int px), .val (.int py), .val (.int kx), .val (.ref im), .unset, .unset, .unset]) rfl ?_
      show Steps p.tables e below (T324.setTop (mkF m 587 #[.val (.int sd), .val (.int xs), .val (.int ys), .val (.int ws0), .val (.int hs), .val (.long pk), .second, .val (.int sd), .val (.ref b1), .val (.ref b2), .val (.int xx), .val (.int yy), .val (.int ww), .val (.int (1 : Int32)), .val (.int px), .val (.int py), .val (.int kx), .val (.ref im), .unset, .unset, .unset] [])) _
      refine XS.aload Xo326.here hx rfl (hb hby at_587) rfl rfl ?_
      show Steps p.tables e below (T324.setTop (mkF m 589 #[.val (.int sd), .val (.int xs), .val (.int ys), .val (.int ws0), .val (.int hs), .val (.long pk), .second, .val (.int sd), .val (.ref b1), .val (.ref b2), .val (.int xx), .val (.int yy), .val (.int ww), .val (.int (1 : Int32)), .val (.int px), .val (.int py), .val (.int kx), .val (.ref im), .unset, .unset, .unset] [(.ref im)])) _
      exact k
    obtain ⟨cq330, kq330, q330a, q330b, q330c⟩ := isOf hZ e324 Eq324
    obtain ⟨_, _, ⟨T330, L330, k330, n330⟩, -, X330, ⟨Lc330, hQ330, l330, y330, z330⟩, st330⟩ := Xo326.virtualBack hx (y := (⟨"com/example/facetwork/facetwork/image/RgbaImage", "width", "()I"⟩ : MethodName)) (z := (⟨"com/example/facetwork/facetwork/image/RgbaImage", "width", "()I"⟩ : MethodName)) hown (mvT hZ (hw _ (List.mem_of_getElem? (i := 40) rfl))) (mvT hZ (hw _ (List.mem_of_getElem? (i := 41) rfl))) (notFace_of_selects (args := #[]) (mvT hZ (hw _ (List.mem_of_getElem? (i := 43) rfl)))) (mvT hZ (hw _ (List.mem_of_getElem? (i := 43) rfl))) (mvT hZ (hw _ (List.mem_of_getElem? (i := 42) rfl))) (by decide) (backOf (W := 0) (rm4 l Z a0 hw [] im ww h324 n0 Z327 Fa324) hZ (hw _ (List.mem_of_getElem? (i := 44) rfl)) (hw _ (List.mem_of_getElem? (i := 3) rfl)) (by decide) (by decide)) q330a q330c (g := (mkF m 589 #[.val (.int sd), .val (.int xs), .val (.int ys), .val (.int ws0), .val (.int hs), .val (.long pk), .second, .val (.int sd), .val (.ref b1), .val (.ref b2), .val (.int xx), .val (.int yy), .val (.int ww), .val (.int (1 : Int32)), .val (.int px), .val (.int py), .val (.int kx), .val (.ref im), .unset, .unset, .unset] [(.ref im)])) rfl (by rw [hml]; rfl) (Steps.refl _) (argsL := []) (rest := []) (lenOf pd_i rfl) rfl (by show 2 * 0 + _ ≤ _; exact Nat.le_of_eq rfl) (hb hby at_589) (fun _ _ => ⟨rfl, e324, (by decide : 6 + 0 ≤ _), (by decide : 198 + 0 ≤ _)⟩)
    dsimp only [Pt.U, Pt.locs, Pt.cells, Pt.slots] at X330 l330 y330 z330 st330 hQ330
    subst l330 y330 z330
    obtain ⟨rfl, Nq330, heq330⟩ := hQ330
    have N330 := Fr.app No326 Nq330
    have pre331 : ∀ t, Steps p.tables e below (T330.setTop (mkF m 592 #[.val (.int sd), .val (.int xs), .val (.int ys), .val (.int ws0), .val (.int hs), .val (.long pk), .second, .val (.int sd), .val (.ref b1), .val (.ref b2), .val (.int xx), .val (.int yy), .val (.int ww), .val (.int (1 : Int32)), .val (.int px), .val (.int py), .val (.int kx), .val (.ref im), .unset, .unset, .unset] [(.int ww)])) t → Steps p.tables e below (s₁.setTop (entryFrame m #[(.int sd), (.int xs), (.int ys), (.int ws0), (.int hs), (.long pk)] maxLocals)) t := fun t k => pre329 t (st330.trans k)
    obtain ⟨Lo332, Xo332, No332⟩ : ∃ L, Stand p l e room_1 s m #[(.int sd), (.int xs), (.int ys), (.int ws0), (.int hs), (.long pk)] below meth c T330 L 6 198 ∧ Fr n0 L := ⟨_, X330, N330⟩
    have pre334 : ∀ t, Steps p.tables e below (T330.setTop (mkF m 599 #[.val (.int sd), .val (.int xs), .val (.int ys), .val (.int ws0), .val (.int hs), .val (.long pk), .second, .val (.int sd), .val (.ref b1), .val (.ref b2), .val (.int xx), .val (.int yy), .val (.int ww), .val (.int (1 : Int32)), .val (.int px), .val (.int py), .val (.int kx), .val (.ref im), .unset, .unset, .unset] [(.ref im)])) t → Steps p.tables e below (s₁.setTop (entryFrame m #[(.int sd), (.int xs), (.int ys), (.int ws0), (.int hs), (.long pk)] maxLocals)) t := by
      intro t k
      refine pre331 t ?_
      refine XS.iload Xo332.here hx rfl (hb hby at_592) rfl ?_
      show Steps p.tables e below (T330.setTop (mkF m 594 #[.val (.int sd), .val (.int xs), .val (.int ys), .val (.int ws0), .val (.int hs), .val (.long pk), .second, .val (.int sd), .val (.ref b1), .val (.ref b2), .val (.int xx), .val (.int yy), .val (.int ww), .val (.int (1 : Int32)), .val (.int px), .val (.int py), .val (.int kx), .val (.ref im), .unset, .unset, .unset] [(.int ww), (.int ww)])) _
      refine XS.icmpNo Xo332.here hx rfl (hb hby at_594) rfl (XT.ii_ne_f rfl) ?_
      show Steps p.tables e below (T330.setTop (mkF m 597 #[.val (.int sd), .val (.int xs), .val (.int ys), .val (.int ws0), .val (.int hs), .val (.long pk), .second, .val (.int sd), .val (.ref b1), .val (.ref b2), .val (.int xx), .val (.int yy), .val (.int ww), .val (.int (1 : Int32)), .val (.int px), .val (.int py), .val (.int kx), .val (.ref im), .unset, .unset, .unset] [])) _
      refine XS.aload Xo332.here hx rfl (hb hby at_597) rfl rfl ?_
      show Steps p.tables e below (T330.setTop (mkF m 599 #[.val (.int sd), .val (.int xs), .val (.int ys), .val (.int ws0), .val (.int hs), .val (.long pk), .second, .val (.int sd), .val (.ref b1), .val (.ref b2), .val (.int xx), .val (.int yy), .val (.int ww), .val (.int (1 : Int32)), .val (.int px), .val (.int py), .val (.int kx), .val (.ref im), .unset, .unset, .unset] [(.ref im)])) _
      exact k
    obtain ⟨cq336, kq336, q336a, q336b, q336c⟩ := isOf hZ heq330 Eq324
    obtain ⟨_, _, ⟨T336, L336, k336, n336⟩, -, X336, ⟨Lc336, hQ336, l336, y336, z336⟩, st336⟩ := Xo332.virtualBack hx (y := (⟨"com/example/facetwork/facetwork/image/RgbaImage", "height", "()I"⟩ : MethodName)) (z := (⟨"com/example/facetwork/facetwork/image/RgbaImage", "height", "()I"⟩ : MethodName)) hown (mvT hZ (hw _ (List.mem_of_getElem? (i := 45) rfl))) (mvT hZ (hw _ (List.mem_of_getElem? (i := 46) rfl))) (notFace_of_selects (args := #[]) (mvT hZ (hw _ (List.mem_of_getElem? (i := 48) rfl)))) (mvT hZ (hw _ (List.mem_of_getElem? (i := 48) rfl))) (mvT hZ (hw _ (List.mem_of_getElem? (i := 47) rfl))) (by decide) (backOf (W := 0) (rm5 l Z a0 hw [] im (1 : Int32) h324 n0 Z327 Fb324) hZ (hw _ (List.mem_of_getElem? (i := 49) rfl)) (hw _ (List.mem_of_getElem? (i := 3) rfl)) (by decide) (by decide)) q336a q336c (g := (mkF m 599 #[.val (.int sd), .val (.int xs), .val (.int ys), .val (.int ws0), .val (.int hs), .val (.long pk), .second, .val (.int sd), .val (.ref b1), .val (.ref b2), .val (.int xx), .val (.int yy), .val (.int ww), .val (.int (1 : Int32)), .val (.int px), .val (.int py), .val (.int kx), .val (.ref im), .unset, .unset, .unset] [(.ref im)])) rfl (by rw [hml]; rfl) (Steps.refl _) (argsL := []) (rest := []) (lenOf pd_i rfl) rfl (by show 2 * 0 + _ ≤ _; exact Nat.le_of_eq rfl) (hb hby at_599) (fun _ _ => ⟨rfl, heq330, (by decide : 6 + 0 ≤ _), (by decide : 198 + 0 ≤ _)⟩)
    dsimp only [Pt.U, Pt.locs, Pt.cells, Pt.slots] at X336 l336 y336 z336 st336 hQ336
    subst l336 y336 z336
    obtain ⟨rfl, Nq336, heq336⟩ := hQ336
    have N336 := Fr.app No332 Nq336
    have pre337 : ∀ t, Steps p.tables e below (T336.setTop (mkF m 602 #[.val (.int sd), .val (.int xs), .val (.int ys), .val (.int ws0), .val (.int hs), .val (.long pk), .second, .val (.int sd), .val (.ref b1), .val (.ref b2), .val (.int xx), .val (.int yy), .val (.int ww), .val (.int (1 : Int32)), .val (.int px), .val (.int py), .val (.int kx), .val (.ref im), .unset, .unset, .unset] [(.int (1 : Int32))])) t → Steps p.tables e below (s₁.setTop (entryFrame m #[(.int sd), (.int xs), (.int ys), (.int ws0), (.int hs), (.long pk)] maxLocals)) t := fun t k => pre334 t (st336.trans k)
    obtain ⟨Lo338, Xo338, No338⟩ : ∃ L, Stand p l e room_1 s m #[(.int sd), (.int xs), (.int ys), (.int ws0), (.int hs), (.long pk)] below meth c T336 L 6 198 ∧ Fr n0 L := ⟨_, X336, N336⟩
    have pre340 : ∀ t, Steps p.tables e below (T336.setTop (mkF m 611 #[.val (.int sd), .val (.int xs), .val (.int ys), .val (.int ws0), .val (.int hs), .val (.long pk), .second, .val (.int sd), .val (.ref b1), .val (.ref b2), .val (.int xx), .val (.int yy), .val (.int ww), .val (.int (1 : Int32)), .val (.int px), .val (.int py), .val (.int kx), .val (.ref im), .unset, .unset, .unset] [(.ref im)])) t → Steps p.tables e below (s₁.setTop (entryFrame m #[(.int sd), (.int xs), (.int ys), (.int ws0), (.int hs), (.long pk)] maxLocals)) t := by
      intro t k
      refine pre337 t ?_
      refine XS.iload Xo338.here hx rfl (hb hby at_602) rfl ?_
      show Steps p.tables e below (T336.setTop (mkF m 604 #[.val (.int sd), .val (.int xs), .val (.int ys), .val (.int ws0), .val (.int hs), .val (.long pk), .second, .val (.int sd), .val (.ref b1), .val (.ref b2), .val (.int xx), .val (.int yy), .val (.int ww), .val (.int (1 : Int32)), .val (.int px), .val (.int py), .val (.int kx), .val (.ref im), .unset, .unset, .unset] [(.int (1 : Int32)), (.int (1 : Int32))])) _
      refine XS.icmpYes Xo338.here hx rfl (pc0 := 604) (pc' := 609) rfl (hb hby at_604) rfl (XT.ii_eq_t rfl) (by decide) (by decide) ?_
      show Steps p.tables e below (T336.setTop (mkF m 609 #[.val (.int sd), .val (.int xs), .val (.int ys), .val (.int ws0), .val (.int hs), .val (.long pk), .second, .val (.int sd), .val (.ref b1), .val (.ref b2), .val (.int xx), .val (.int yy), .val (.int ww), .val (.int (1 : Int32)), .val (.int px), .val (.int py), .val (.int kx), .val (.ref im), .unset, .unset, .unset] [])) _
      refine XS.aload Xo338.here hx rfl (hb hby at_609) rfl rfl ?_
      show Steps p.tables e below (T336.setTop (mkF m 611 #[.val (.int sd), .val (.int xs), .val (.int ys), .val (.int ws0), .val (.int hs), .val (.long pk), .second, .val (.int sd), .val (.ref b1), .val (.ref b2), .val (.int xx), .val (.int yy), .val (.int ww), .val (.int (1 : Int32)), .val (.int px), .val (.int py), .val (.int kx), .val (.ref im), .unset, .unset, .unset] [(.ref im)])) _
      exact k
    obtain ⟨hn1, hn2⟩ := own_n1 hw1 hw4
    have hnc := own_clamp hn1
    obtain ⟨cq342, kq342, q342a, q342b, q342c⟩ := isOf hZ heq336 Eq324
    obtain ⟨_, _, ⟨T342, L342, k342, n342⟩, -, X342, ⟨Lc342, hQ342, l342, y342, z342⟩, st342⟩ := Xo338.virtualBack hx (y := (⟨"com/example/facetwork/facetwork/image/RgbaImage", "pixels", "()[B"⟩ : MethodName)) (z := (⟨"com/example/facetwork/facetwork/image/RgbaImage", "pixels", "()[B"⟩ : MethodName)) hown (mvT hZ (hw _ (List.mem_of_getElem? (i := 50) rfl))) (mvT hZ (hw _ (List.mem_of_getElem? (i := 51) rfl))) (notFace_of_selects (args := #[]) (mvT hZ (hw _ (List.mem_of_getElem? (i := 53) rfl)))) (mvT hZ (hw _ (List.mem_of_getElem? (i := 53) rfl))) (mvT hZ (hw _ (List.mem_of_getElem? (i := 52) rfl))) (by decide) (backOf (W := 0) (rm6 l Z a0 hw [] im pb kb ((ww * (1 : Int32)) * (4 : Int32)) ud h324 n0 Z327 Fc324 Ep324 Vp324 (by rw [hnc]; omega)) hZ (hw _ (List.mem_of_getElem? (i := 54) rfl)) (hw _ (List.mem_of_getElem? (i := 3) rfl)) (by decide) (by decide)) q342a q342c (g := (mkF m 611 #[.val (.int sd), .val (.int xs), .val (.int ys), .val (.int ws0), .val (.int hs), .val (.long pk), .second, .val (.int sd), .val (.ref b1), .val (.ref b2), .val (.int xx), .val (.int yy), .val (.int ww), .val (.int (1 : Int32)), .val (.int px), .val (.int py), .val (.int kx), .val (.ref im), .unset, .unset, .unset] [(.ref im)])) rfl (by rw [hml]; rfl) (Steps.refl _) (argsL := []) (rest := []) (lenOf pd_pix rfl) rfl (by show 2 * 0 + _ ≤ _; exact Nat.le_of_eq rfl) (hb hby at_611) (fun _ _ => ⟨rfl, heq336, (by decide : 6 + 1 ≤ _), (by decide : 198 + 48 ≤ _)⟩)
    dsimp only [Pt.U, Pt.locs, Pt.cells, Pt.slots] at X342 l342 y342 z342 st342 hQ342
    subst l342 y342 z342
    obtain ⟨pc, rfl, Nq342, Kq342, Vp342⟩ := hQ342
    have N342 := Fr.app No338 Nq342
    have pre343 : ∀ t, Steps p.tables e below (T342.setTop (mkF m 614 #[.val (.int sd), .val (.int xs), .val (.int ys), .val (.int ws0), .val (.int hs), .val (.long pk), .second, .val (.int sd), .val (.ref b1), .val (.ref b2), .val (.int xx), .val (.int yy), .val (.int ww), .val (.int (1 : Int32)), .val (.int px), .val (.int py), .val (.int kx), .val (.ref im), .unset, .unset, .unset] [(.ref pc)])) t → Steps p.tables e below (s₁.setTop (entryFrame m #[(.int sd), (.int xs), (.int ys), (.int ws0), (.int hs), (.long pk)] maxLocals)) t := fun t k => pre340 t (st342.trans k)
    obtain ⟨Lo344, Xo344, No344⟩ : ∃ L, Stand p l e room_1 s m #[(.int sd), (.int xs), (.int ys), (.int ws0), (.int hs), (.long pk)] below meth c T342 L 7 246 ∧ Fr n0 L := ⟨_, X342, N342⟩
    obtain ⟨h342, e342⟩ : ∃ z, T342.heap = z := ⟨_, rfl⟩
    rw [e342] at Kq342 Vp342
    have Z345 : n0 ≤ h342.size := (Nat.le_trans Z327 Kq342.1)
    have pre346 : ∀ t, Steps p.tables e below (T342.setTop (mkF m 618 #[.val (.int sd), .val (.int xs), .val (.int ys), .val (.int ws0), .val (.int hs), .val (.long pk), .second, .val (.int sd), .val (.ref b1), .val (.ref b2), .val (.int xx), .val (.int yy), .val (.int ww), .val (.int (1 : Int32)), .val (.int px), .val (.int py), .val (.int kx), .val (.ref im), .val (.ref pc), .unset, .unset] [(.ref pc)])) t → Steps p.tables e below (s₁.setTop (entryFrame m #[(.int sd), (.int xs), (.int ys), (.int ws0), (.int hs), (.long pk)] maxLocals)) t := by
      intro t k
      refine pre343 t ?_
      refine XS.astore Xo344.here hx rfl (hb hby at_614) rfl rfl (l' := #[.val (.int sd), .val (.int xs), .val (.int ys), .val (.int ws0), .val (.int hs), .val (.long pk), .second, .val (.int sd), .val (.ref b1), .val (.ref b2), .val (.int xx), .val (.int yy), .val (.int ww), .val (.int (1 : Int32)), .val (.int px), .val (.int py), .val (.int kx), .val (.ref im), .val (.ref pc), .unset, .unset]) rfl ?_
      show Steps p.tables e below (T342.setTop (mkF m 616 #[.val (.int sd), .val (.int xs), .val (.int ys), .val (.int ws0), .val (.int hs), .val (.long pk), .second, .val (.int sd), .val (.ref b1), .val (.ref b2), .val (.int xx), .val (.int yy), .val (.int ww), .val (.int (1 : Int32)), .val (.int px), .val (.int py), .val (.int kx), .val (.ref im), .val (.ref pc), .unset, .unset] [])) _
      refine XS.aload Xo344.here hx rfl (hb hby at_616) rfl rfl ?_
      show Steps p.tables e below (T342.setTop (mkF m 618 #[.val (.int sd), .val (.int xs), .val (.int ys), .val (.int ws0), .val (.int hs), .val (.long pk), .second, .val (.int sd), .val (.ref b1), .val (.ref b2), .val (.int xx), .val (.int yy), .val (.int ww), .val (.int (1 : Int32)), .val (.int px), .val (.int py), .val (.int kx), .val (.ref im), .val (.ref pc), .unset, .unset] [(.ref pc)])) _
      exact k
    obtain ⟨cc347, Ar347, q1_347, Sz347, q3_347, Hs347, G347⟩ := id Vp342
    obtain ⟨gq1, gq2⟩ := own_q hw1 hw4 hpy0 hpy2 (by decide) hpx0 hpx1 hk0 hk4
    obtain ⟨go1, go2⟩ := own_o hy0 hpy0 hx0 hpx0 hk0 (by omega) (by omega) hk4
    have gqc := own_clamp gq1
    have hval := (Rq324.2 _ hpy2 _ gq2).trans (own_at sd _ go2)
    have gqm : py.toNatClampNeg * (4 * ww.toNatClampNeg) + (4 * px.toNatClampNeg + kx.toNatClampNeg) < 1 * (4 * ww.toNatClampNeg) := by
      rcases (by omega : py.toNatClampNeg = 0 ∨ py.toNatClampNeg = 1 ∨ py.toNatClampNeg = 2) with q | q | q <;> rw [q] <;> omega
    have pre349 : ∀ t, Steps p.tables e below (T342.setTop (mkF m 670 #[.val (.int sd), .val (.int xs), .val (.int ys), .val (.int ws0), .val (.int hs), .val (.long pk), .second, .val (.int sd), .val (.ref b1), .val (.ref b2), .val (.int xx), .val (.int yy), .val (.int ww), .val (.int (1 : Int32)), .val (.int px), .val (.int py), .val (.int kx), .val (.ref im), .val (.ref pc), .val (.int ((((py * ww) + px) * (4 : Int32)) + kx)), .val (.int (((((yy + py) * (4 : Int32)) + (xx + px)) * (4 : Int32)) + kx))] [(.int ((((py * ww) + px) * (4 : Int32)) + kx)), (.ref pc)])) t → Steps p.tables e below (s₁.setTop (entryFrame m #[(.int sd), (.int xs), (.int ys), (.int ws0), (.int hs), (.long pk)] maxLocals)) t := by
      intro t k
      refine pre346 t ?_
      refine Xo344.arraylength hx (by rw [e342]; exact Ar347.1) (State.isArrayOf_alike hZ.alike Ar347.2.1) (g := (mkF m 618 #[.val (.int sd), .val (.int xs), .val (.int ys), .val (.int ws0), .val (.int hs), .val (.long pk), .second, .val (.int sd), .val (.ref b1), .val (.ref b2), .val (.int xx), .val (.int yy), .val (.int ww), .val (.int (1 : Int32)), .val (.int px), .val (.int py), .val (.int kx), .val (.ref im), .val (.ref pc), .unset, .unset] [(.ref pc)])) rfl rfl (hb hby at_618) _ ?_
      rw [len_of Sz347 q3_347]
      show Steps p.tables e below (T342.setTop (mkF m 619 #[.val (.int sd), .val (.int xs), .val (.int ys), .val (.int ws0), .val (.int hs), .val (.long pk), .second, .val (.int sd), .val (.ref b1), .val (.ref b2), .val (.int xx), .val (.int yy), .val (.int ww), .val (.int (1 : Int32)), .val (.int px), .val (.int py), .val (.int kx), .val (.ref im), .val (.ref pc), .unset, .unset] [(.int ((ww * (1 : Int32)) * (4 : Int32)))])) _
      refine XS.iload Xo344.here hx rfl (hb hby at_619) rfl ?_
      show Steps p.tables e below (T342.setTop (mkF m 621 #[.val (.int sd), .val (.int xs), .val (.int ys), .val (.int ws0), .val (.int hs), .val (.long pk), .second, .val (.int sd), .val (.ref b1), .val (.ref b2), .val (.int xx), .val (.int yy), .val (.int ww), .val (.int (1 : Int32)), .val (.int px), .val (.int py), .val (.int kx), .val (.ref im), .val (.ref pc), .unset, .unset] [(.int ww), (.int ((ww * (1 : Int32)) * (4 : Int32)))])) _
      refine XS.iload Xo344.here hx rfl (hb hby at_621) rfl ?_
      show Steps p.tables e below (T342.setTop (mkF m 623 #[.val (.int sd), .val (.int xs), .val (.int ys), .val (.int ws0), .val (.int hs), .val (.long pk), .second, .val (.int sd), .val (.ref b1), .val (.ref b2), .val (.int xx), .val (.int yy), .val (.int ww), .val (.int (1 : Int32)), .val (.int px), .val (.int py), .val (.int kx), .val (.ref im), .val (.ref pc), .unset, .unset] [(.int (1 : Int32)), (.int ww), (.int ((ww * (1 : Int32)) * (4 : Int32)))])) _
      refine XS.imul Xo344.here hx rfl (hb hby at_623) rfl ?_
      show Steps p.tables e below (T342.setTop (mkF m 624 #[.val (.int sd), .val (.int xs), .val (.int ys), .val (.int ws0), .val (.int hs), .val (.long pk), .second, .val (.int sd), .val (.ref b1), .val (.ref b2), .val (.int xx), .val (.int yy), .val (.int ww), .val (.int (1 : Int32)), .val (.int px), .val (.int py), .val (.int kx), .val (.ref im), .val (.ref pc), .unset, .unset] [(.int (ww * (1 : Int32))), (.int ((ww * (1 : Int32)) * (4 : Int32)))])) _
      refine XS.iconst Xo344.here hx rfl (hb hby at_624) ?_
      show Steps p.tables e below (T342.setTop (mkF m 625 #[.val (.int sd), .val (.int xs), .val (.int ys), .val (.int ws0), .val (.int hs), .val (.long pk), .second, .val (.int sd), .val (.ref b1), .val (.ref b2), .val (.int xx), .val (.int yy), .val (.int ww), .val (.int (1 : Int32)), .val (.int px), .val (.int py), .val (.int kx), .val (.ref im), .val (.ref pc), .unset, .unset] [(.int (4 : Int32)), (.int (ww * (1 : Int32))), (.int ((ww * (1 : Int32)) * (4 : Int32)))])) _
      refine XS.imul Xo344.here hx rfl (hb hby at_625) rfl ?_
      show Steps p.tables e below (T342.setTop (mkF m 626 #[.val (.int sd), .val (.int xs), .val (.int ys), .val (.int ws0), .val (.int hs), .val (.long pk), .second, .val (.int sd), .val (.ref b1), .val (.ref b2), .val (.int xx), .val (.int yy), .val (.int ww), .val (.int (1 : Int32)), .val (.int px), .val (.int py), .val (.int kx), .val (.ref im), .val (.ref pc), .unset, .unset] [(.int ((ww * (1 : Int32)) * (4 : Int32))), (.int ((ww * (1 : Int32)) * (4 : Int32)))])) _
      refine XS.icmpYes Xo344.here hx rfl (pc0 := 626) (pc' := 631) rfl (hb hby at_626) rfl (XT.ii_eq_t rfl) (by decide) (by decide) ?_
      show Steps p.tables e below (T342.setTop (mkF m 631 #[.val (.int sd), .val (.int xs), .val (.int ys), .val (.int ws0), .val (.int hs), .val (.long pk), .second, .val (.int sd), .val (.ref b1), .val (.ref b2), .val (.int xx), .val (.int yy), .val (.int ww), .val (.int (1 : Int32)), .val (.int px), .val (.int py), .val (.int kx), .val (.ref im), .val (.ref pc), .unset, .unset] [])) _
      refine XS.iload Xo344.here hx rfl (hb hby at_631) rfl ?_
      show Steps p.tables e below (T342.setTop (mkF m 633 #[.val (.int sd), .val (.int xs), .val (.int ys), .val (.int ws0), .val (.int hs), .val (.long pk), .second, .val (.int sd), .val (.ref b1), .val (.ref b2), .val (.int xx), .val (.int yy), .val (.int ww), .val (.int (1 : Int32)), .val (.int px), .val (.int py), .val (.int kx), .val (.ref im), .val (.ref pc), .unset, .unset] [(.int py)])) _
      refine XS.iload Xo344.here hx rfl (hb hby at_633) rfl ?_
      show Steps p.tables e below (T342.setTop (mkF m 635 #[.val (.int sd), .val (.int xs), .val (.int ys), .val (.int ws0), .val (.int hs), .val (.long pk), .second, .val (.int sd), .val (.ref b1), .val (.ref b2), .val (.int xx), .val (.int yy), .val (.int ww), .val (.int (1 : Int32)), .val (.int px), .val (.int py), .val (.int kx), .val (.ref im), .val (.ref pc), .unset, .unset] [(.int ww), (.int py)])) _
      refine XS.imul Xo344.here hx rfl (hb hby at_635) rfl ?_
      show Steps p.tables e below (T342.setTop (mkF m 636 #[.val (.int sd), .val (.int xs), .val (.int ys), .val (.int ws0), .val (.int hs), .val (.long pk), .second, .val (.int sd), .val (.ref b1), .val (.ref b2), .val (.int xx), .val (.int yy), .val (.int ww), .val (.int (1 : Int32)), .val (.int px), .val (.int py), .val (.int kx), .val (.ref im), .val (.ref pc), .unset, .unset] [(.int (py * ww))])) _
      refine XS.iload Xo344.here hx rfl (hb hby at_636) rfl ?_
      show Steps p.tables e below (T342.setTop (mkF m 638 #[.val (.int sd), .val (.int xs), .val (.int ys), .val (.int ws0), .val (.int hs), .val (.long pk), .second, .val (.int sd), .val (.ref b1), .val (.ref b2), .val (.int xx), .val (.int yy), .val (.int ww), .val (.int (1 : Int32)), .val (.int px), .val (.int py), .val (.int kx), .val (.ref im), .val (.ref pc), .unset, .unset] [(.int px), (.int (py * ww))])) _
      refine XS.iadd Xo344.here hx rfl (hb hby at_638) rfl ?_
      show Steps p.tables e below (T342.setTop (mkF m 639 #[.val (.int sd), .val (.int xs), .val (.int ys), .val (.int ws0), .val (.int hs), .val (.long pk), .second, .val (.int sd), .val (.ref b1), .val (.ref b2), .val (.int xx), .val (.int yy), .val (.int ww), .val (.int (1 : Int32)), .val (.int px), .val (.int py), .val (.int kx), .val (.ref im), .val (.ref pc), .unset, .unset] [(.int ((py * ww) + px))])) _
      refine XS.iconst Xo344.here hx rfl (hb hby at_639) ?_
      show Steps p.tables e below (T342.setTop (mkF m 640 #[.val (.int sd), .val (.int xs), .val (.int ys), .val (.int ws0), .val (.int hs), .val (.long pk), .second, .val (.int sd), .val (.ref b1), .val (.ref b2), .val (.int xx), .val (.int yy), .val (.int ww), .val (.int (1 : Int32)), .val (.int px), .val (.int py), .val (.int kx), .val (.ref im), .val (.ref pc), .unset, .unset] [(.int (4 : Int32)), (.int ((py * ww) + px))])) _
      refine XS.imul Xo344.here hx rfl (hb hby at_640) rfl ?_
      show Steps p.tables e below (T342.setTop (mkF m 641 #[.val (.int sd), .val (.int xs), .val (.int ys), .val (.int ws0), .val (.int hs), .val (.long pk), .second, .val (.int sd), .val (.ref b1), .val (.ref b2), .val (.int xx), .val (.int yy), .val (.int ww), .val (.int (1 : Int32)), .val (.int px), .val (.int py), .val (.int kx), .val (.ref im), .val (.ref pc), .unset, .unset] [(.int (((py * ww) + px) * (4 : Int32)))])) _
      refine XS.iload Xo344.here hx rfl (hb hby at_641) rfl ?_
      show Steps p.tables e below (T342.setTop (mkF m 643 #[.val (.int sd), .val (.int xs), .val (.int ys), .val (.int ws0), .val (.int hs), .val (.long pk), .second, .val (.int sd), .val (.ref b1), .val (.ref b2), .val (.int xx), .val (.int yy), .val (.int ww), .val (.int (1 : Int32)), .val (.int px), .val (.int py), .val (.int kx), .val (.ref im), .val (.ref pc), .unset, .unset] [(.int kx), (.int (((py * ww) + px) * (4 : Int32)))])) _
      refine XS.iadd Xo344.here hx rfl (hb hby at_643) rfl ?_
      show Steps p.tables e below (T342.setTop (mkF m 644 #[.val (.int sd), .val (.int xs), .val (.int ys), .val (.int ws0), .val (.int hs), .val (.long pk), .second, .val (.int sd), .val (.ref b1), .val (.ref b2), .val (.int xx), .val (.int yy), .val (.int ww), .val (.int (1 : Int32)), .val (.int px), .val (.int py), .val (.int kx), .val (.ref im), .val (.ref pc), .unset, .unset] [(.int ((((py * ww) + px) * (4 : Int32)) + kx))])) _
      refine XS.istore Xo344.here hx rfl (hb hby at_644) rfl (l' := #[.val (.int sd), .val (.int xs), .val (.int ys), .val (.int ws0), .val (.int hs), .val (.long pk), .second, .val (.int sd), .val (.ref b1), .val (.ref b2), .val (.int xx), .val (.int yy), .val (.int ww), .val (.int (1 : Int32)), .val (.int px), .val (.int py), .val (.int kx), .val (.ref im), .val (.ref pc), .val (.int ((((py * ww) + px) * (4 : Int32)) + kx)), .unset]) rfl ?_
      show Steps p.tables e below (T342.setTop (mkF m 646 #[.val (.int sd), .val (.int xs), .val (.int ys), .val (.int ws0), .val (.int hs), .val (.long pk), .second, .val (.int sd), .val (.ref b1), .val (.ref b2), .val (.int xx), .val (.int yy), .val (.int ww), .val (.int (1 : Int32)), .val (.int px), .val (.int py), .val (.int kx), .val (.ref im), .val (.ref pc), .val (.int ((((py * ww) + px) * (4 : Int32)) + kx)), .unset] [])) _
      refine XS.iload Xo344.here hx rfl (hb hby at_646) rfl ?_
      show Steps p.tables e below (T342.setTop (mkF m 648 #[.val (.int sd), .val (.int xs), .val (.int ys), .val (.int ws0), .val (.int hs), .val (.long pk), .second, .val (.int sd), .val (.ref b1), .val (.ref b2), .val (.int xx), .val (.int yy), .val (.int ww), .val (.int (1 : Int32)), .val (.int px), .val (.int py), .val (.int kx), .val (.ref im), .val (.ref pc), .val (.int ((((py * ww) + px) * (4 : Int32)) + kx)), .unset] [(.int yy)])) _
      refine XS.iload Xo344.here hx rfl (hb hby at_648) rfl ?_
      show Steps p.tables e below (T342.setTop (mkF m 650 #[.val (.int sd), .val (.int xs), .val (.int ys), .val (.int ws0), .val (.int hs), .val (.long pk), .second, .val (.int sd), .val (.ref b1), .val (.ref b2), .val (.int xx), .val (.int yy), .val (.int ww), .val (.int (1 : Int32)), .val (.int px), .val (.int py), .val (.int kx), .val (.ref im), .val (.ref pc), .val (.int ((((py * ww) + px) * (4 : Int32)) + kx)), .unset] [(.int py), (.int yy)])) _
      refine XS.iadd Xo344.here hx rfl (hb hby at_650) rfl ?_
      show Steps p.tables e below (T342.setTop (mkF m 651 #[.val (.int sd), .val (.int xs), .val (.int ys), .val (.int ws0), .val (.int hs), .val (.long pk), .second, .val (.int sd), .val (.ref b1), .val (.ref b2), .val (.int xx), .val (.int yy), .val (.int ww), .val (.int (1 : Int32)), .val (.int px), .val (.int py), .val (.int kx), .val (.ref im), .val (.ref pc), .val (.int ((((py * ww) + px) * (4 : Int32)) + kx)), .unset] [(.int (yy + py))])) _
      refine XS.iconst Xo344.here hx rfl (hb hby at_651) ?_
      show Steps p.tables e below (T342.setTop (mkF m 652 #[.val (.int sd), .val (.int xs), .val (.int ys), .val (.int ws0), .val (.int hs), .val (.long pk), .second, .val (.int sd), .val (.ref b1), .val (.ref b2), .val (.int xx), .val (.int yy), .val (.int ww), .val (.int (1 : Int32)), .val (.int px), .val (.int py), .val (.int kx), .val (.ref im), .val (.ref pc), .val (.int ((((py * ww) + px) * (4 : Int32)) + kx)), .unset] [(.int (4 : Int32)), (.int (yy + py))])) _
      refine XS.imul Xo344.here hx rfl (hb hby at_652) rfl ?_
      show Steps p.tables e below (T342.setTop (mkF m 653 #[.val (.int sd), .val (.int xs), .val (.int ys), .val (.int ws0), .val (.int hs), .val (.long pk), .second, .val (.int sd), .val (.ref b1), .val (.ref b2), .val (.int xx), .val (.int yy), .val (.int ww), .val (.int (1 : Int32)), .val (.int px), .val (.int py), .val (.int kx), .val (.ref im), .val (.ref pc), .val (.int ((((py * ww) + px) * (4 : Int32)) + kx)), .unset] [(.int ((yy + py) * (4 : Int32)))])) _
      refine XS.iload Xo344.here hx rfl (hb hby at_653) rfl ?_
      show Steps p.tables e below (T342.setTop (mkF m 655 #[.val (.int sd), .val (.int xs), .val (.int ys), .val (.int ws0), .val (.int hs), .val (.long pk), .second, .val (.int sd), .val (.ref b1), .val (.ref b2), .val (.int xx), .val (.int yy), .val (.int ww), .val (.int (1 : Int32)), .val (.int px), .val (.int py), .val (.int kx), .val (.ref im), .val (.ref pc), .val (.int ((((py * ww) + px) * (4 : Int32)) + kx)), .unset] [(.int xx), (.int ((yy + py) * (4 : Int32)))])) _
      refine XS.iload Xo344.here hx rfl (hb hby at_655) rfl ?_
      show Steps p.tables e below (T342.setTop (mkF m 657 #[.val (.int sd), .val (.int xs), .val (.int ys), .val (.int ws0), .val (.int hs), .val (.long pk), .second, .val (.int sd), .val (.ref b1), .val (.ref b2), .val (.int xx), .val (.int yy), .val (.int ww), .val (.int (1 : Int32)), .val (.int px), .val (.int py), .val (.int kx), .val (.ref im), .val (.ref pc), .val (.int ((((py * ww) + px) * (4 : Int32)) + kx)), .unset] [(.int px), (.int xx), (.int ((yy + py) * (4 : Int32)))])) _
      refine XS.iadd Xo344.here hx rfl (hb hby at_657) rfl ?_
      show Steps p.tables e below (T342.setTop (mkF m 658 #[.val (.int sd), .val (.int xs), .val (.int ys), .val (.int ws0), .val (.int hs), .val (.long pk), .second, .val (.int sd), .val (.ref b1), .val (.ref b2), .val (.int xx), .val (.int yy), .val (.int ww), .val (.int (1 : Int32)), .val (.int px), .val (.int py), .val (.int kx), .val (.ref im), .val (.ref pc), .val (.int ((((py * ww) + px) * (4 : Int32)) + kx)), .unset] [(.int (xx + px)), (.int ((yy + py) * (4 : Int32)))])) _
      refine XS.iadd Xo344.here hx rfl (hb hby at_658) rfl ?_
      show Steps p.tables e below (T342.setTop (mkF m 659 #[.val (.int sd), .val (.int xs), .val (.int ys), .val (.int ws0), .val (.int hs), .val (.long pk), .second, .val (.int sd), .val (.ref b1), .val (.ref b2), .val (.int xx), .val (.int yy), .val (.int ww), .val (.int (1 : Int32)), .val (.int px), .val (.int py), .val (.int kx), .val (.ref im), .val (.ref pc), .val (.int ((((py * ww) + px) * (4 : Int32)) + kx)), .unset] [(.int (((yy + py) * (4 : Int32)) + (xx + px)))])) _
      refine XS.iconst Xo344.here hx rfl (hb hby at_659) ?_
      show Steps p.tables e below (T342.setTop (mkF m 660 #[.val (.int sd), .val (.int xs), .val (.int ys), .val (.int ws0), .val (.int hs), .val (.long pk), .second, .val (.int sd), .val (.ref b1), .val (.ref b2), .val (.int xx), .val (.int yy), .val (.int ww), .val (.int (1 : Int32)), .val (.int px), .val (.int py), .val (.int kx), .val (.ref im), .val (.ref pc), .val (.int ((((py * ww) + px) * (4 : Int32)) + kx)), .unset] [(.int (4 : Int32)), (.int (((yy + py) * (4 : Int32)) + (xx + px)))])) _
      refine XS.imul Xo344.here hx rfl (hb hby at_660) rfl ?_
      show Steps p.tables e below (T342.setTop (mkF m 661 #[.val (.int sd), .val (.int xs), .val (.int ys), .val (.int ws0), .val (.int hs), .val (.long pk), .second, .val (.int sd), .val (.ref b1), .val (.ref b2), .val (.int xx), .val (.int yy), .val (.int ww), .val (.int (1 : Int32)), .val (.int px), .val (.int py), .val (.int kx), .val (.ref im), .val (.ref pc), .val (.int ((((py * ww) + px) * (4 : Int32)) + kx)), .unset] [(.int ((((yy + py) * (4 : Int32)) + (xx + px)) * (4 : Int32)))])) _
      refine XS.iload Xo344.here hx rfl (hb hby at_661) rfl ?_
      show Steps p.tables e below (T342.setTop (mkF m 663 #[.val (.int sd), .val (.int xs), .val (.int ys), .val (.int ws0), .val (.int hs), .val (.long pk), .second, .val (.int sd), .val (.ref b1), .val (.ref b2), .val (.int xx), .val (.int yy), .val (.int ww), .val (.int (1 : Int32)), .val (.int px), .val (.int py), .val (.int kx), .val (.ref im), .val (.ref pc), .val (.int ((((py * ww) + px) * (4 : Int32)) + kx)), .unset] [(.int kx), (.int ((((yy + py) * (4 : Int32)) + (xx + px)) * (4 : Int32)))])) _
      refine XS.iadd Xo344.here hx rfl (hb hby at_663) rfl ?_
      show Steps p.tables e below (T342.setTop (mkF m 664 #[.val (.int sd), .val (.int xs), .val (.int ys), .val (.int ws0), .val (.int hs), .val (.long pk), .second, .val (.int sd), .val (.ref b1), .val (.ref b2), .val (.int xx), .val (.int yy), .val (.int ww), .val (.int (1 : Int32)), .val (.int px), .val (.int py), .val (.int kx), .val (.ref im), .val (.ref pc), .val (.int ((((py * ww) + px) * (4 : Int32)) + kx)), .unset] [(.int (((((yy + py) * (4 : Int32)) + (xx + px)) * (4 : Int32)) + kx))])) _
      refine XS.istore Xo344.here hx rfl (hb hby at_664) rfl (l' := #[.val (.int sd), .val (.int xs), .val (.int ys), .val (.int ws0), .val (.int hs), .val (.long pk), .second, .val (.int sd), .val (.ref b1), .val (.ref b2), .val (.int xx), .val (.int yy), .val (.int ww), .val (.int (1 : Int32)), .val (.int px), .val (.int py), .val (.int kx), .val (.ref im), .val (.ref pc), .val (.int ((((py * ww) + px) * (4 : Int32)) + kx)), .val (.int (((((yy + py) * (4 : Int32)) + (xx + px)) * (4 : Int32)) + kx))]) rfl ?_
      show Steps p.tables e below (T342.setTop (mkF m 666 #[.val (.int sd), .val (.int xs), .val (.int ys), .val (.int ws0), .val (.int hs), .val (.long pk), .second, .val (.int sd), .val (.ref b1), .val (.ref b2), .val (.int xx), .val (.int yy), .val (.int ww), .val (.int (1 : Int32)), .val (.int px), .val (.int py), .val (.int kx), .val (.ref im), .val (.ref pc), .val (.int ((((py * ww) + px) * (4 : Int32)) + kx)), .val (.int (((((yy + py) * (4 : Int32)) + (xx + px)) * (4 : Int32)) + kx))] [])) _
      refine XS.aload Xo344.here hx rfl (hb hby at_666) rfl rfl ?_
      show Steps p.tables e below (T342.setTop (mkF m 668 #[.val (.int sd), .val (.int xs), .val (.int ys), .val (.int ws0), .val (.int hs), .val (.long pk), .second, .val (.int sd), .val (.ref b1), .val (.ref b2), .val (.int xx), .val (.int yy), .val (.int ww), .val (.int (1 : Int32)), .val (.int px), .val (.int py), .val (.int kx), .val (.ref im), .val (.ref pc), .val (.int ((((py * ww) + px) * (4 : Int32)) + kx)), .val (.int (((((yy + py) * (4 : Int32)) + (xx + px)) * (4 : Int32)) + kx))] [(.ref pc)])) _
      refine XS.iload Xo344.here hx rfl (hb hby at_668) rfl ?_
      show Steps p.tables e below (T342.setTop (mkF m 670 #[.val (.int sd), .val (.int xs), .val (.int ys), .val (.int ws0), .val (.int hs), .val (.long pk), .second, .val (.int sd), .val (.ref b1), .val (.ref b2), .val (.int xx), .val (.int yy), .val (.int ww), .val (.int (1 : Int32)), .val (.int px), .val (.int py), .val (.int kx), .val (.ref im), .val (.ref pc), .val (.int ((((py * ww) + px) * (4 : Int32)) + kx)), .val (.int (((((yy + py) * (4 : Int32)) + (xx + px)) * (4 : Int32)) + kx))] [(.int ((((py * ww) + px) * (4 : Int32)) + kx)), (.ref pc)])) _
      exact k
    obtain ⟨cc350, Ar350, q1_350, Sz350, q3_350, Hs350, G350⟩ := id Vp342
    have hin350 : ¬ (((((py * ww) + px) * (4 : Int32)) + kx) < 0 ∨ cc350.slots.size ≤ (((((py * ww) + px) * (4 : Int32)) + kx) : Int32).toNatClampNeg) := inb_of Sz350 (own_lt gq1 hn1 gqm)
    have hat350 : cc350.slots[(((((py * ww) + px) * (4 : Int32)) + kx) : Int32).toNatClampNeg]? = some (.int ((sd + (Int32.ofNat (((yy.toNatClampNeg + py.toNatClampNeg) * 4 + xx.toNatClampNeg) * 4 + (4 * px.toNatClampNeg + kx.toNatClampNeg)))).toInt8.toInt32)) := Hs350.at hin350 (by rw [gqc]; exact hval)
    have pre352 : ∀ t, Steps p.tables e below (T342.setTop (mkF m 685 #[.val (.int sd), .val (.int xs), .val (.int ys), .val (.int ws0), .val (.int hs), .val (.long pk), .second, .val (.int sd), .val (.ref b1), .val (.ref b2), .val (.int xx), .val (.int yy), .val (.int ww), .val (.int (1 : Int32)), .val (.int px), .val (.int py), .val (.int kx), .val (.ref im), .val (.ref pc), .val (.int ((((py * ww) + px) * (4 : Int32)) + kx)), .val (.int (((((yy + py) * (4 : Int32)) + (xx + px)) * (4 : Int32)) + kx))] [(.int (1 : Int32))])) t → Steps p.tables e below (s₁.setTop (entryFrame m #[(.int sd), (.int xs), (.int ys), (.int ws0), (.int hs), (.long pk)] maxLocals)) t := by
      intro t k
      refine pre349 t ?_
      refine Xo344.baloadBytes hx (j := ((((py * ww) + px) * (4 : Int32)) + kx)) (v := (.int ((sd + (Int32.ofNat (((yy.toNatClampNeg + py.toNatClampNeg) * 4 + xx.toNatClampNeg) * 4 + (4 * px.toNatClampNeg + kx.toNatClampNeg)))).toInt8.toInt32))) (by rw [e342]; exact Ar350.1) (State.isArrayOf_alike hZ.alike Ar350.2.1) Ar350.2.2 hin350 hat350 (g := (mkF m 670 #[.val (.int sd), .val (.int xs), .val (.int ys), .val (.int ws0), .val (.int hs), .val (.long pk), .second, .val (.int sd), .val (.ref b1), .val (.ref b2), .val (.int xx), .val (.int yy), .val (.int ww), .val (.int (1 : Int32)), .val (.int px), .val (.int py), .val (.int kx), .val (.ref im), .val (.ref pc), .val (.int ((((py * ww) + px) * (4 : Int32)) + kx)), .val (.int (((((yy + py) * (4 : Int32)) + (xx + px)) * (4 : Int32)) + kx))] [(.int ((((py * ww) + px) * (4 : Int32)) + kx)), (.ref pc)])) rfl rfl (hb hby at_670) _ ?_
      show Steps p.tables e below (T342.setTop (mkF m 671 #[.val (.int sd), .val (.int xs), .val (.int ys), .val (.int ws0), .val (.int hs), .val (.long pk), .second, .val (.int sd), .val (.ref b1), .val (.ref b2), .val (.int xx), .val (.int yy), .val (.int ww), .val (.int (1 : Int32)), .val (.int px), .val (.int py), .val (.int kx), .val (.ref im), .val (.ref pc), .val (.int ((((py * ww) + px) * (4 : Int32)) + kx)), .val (.int (((((yy + py) * (4 : Int32)) + (xx + px)) * (4 : Int32)) + kx))] [(.int ((sd + (Int32.ofNat (((yy.toNatClampNeg + py.toNatClampNeg) * 4 + xx.toNatClampNeg) * 4 + (4 * px.toNatClampNeg + kx.toNatClampNeg)))).toInt8.toInt32))])) _
      refine XS.iload Xo344.here hx rfl (hb hby at_671) rfl ?_
      show Steps p.tables e below (T342.setTop (mkF m 673 #[.val (.int sd), .val (.int xs), .val (.int ys), .val (.int ws0), .val (.int hs), .val (.long pk), .second, .val (.int sd), .val (.ref b1), .val (.ref b2), .val (.int xx), .val (.int yy), .val (.int ww), .val (.int (1 : Int32)), .val (.int px), .val (.int py), .val (.int kx), .val (.ref im), .val (.ref pc), .val (.int ((((py * ww) + px) * (4 : Int32)) + kx)), .val (.int (((((yy + py) * (4 : Int32)) + (xx + px)) * (4 : Int32)) + kx))] [(.int sd), (.int ((sd + (Int32.ofNat (((yy.toNatClampNeg + py.toNatClampNeg) * 4 + xx.toNatClampNeg) * 4 + (4 * px.toNatClampNeg + kx.toNatClampNeg)))).toInt8.toInt32))])) _
      refine XS.iload Xo344.here hx rfl (hb hby at_673) rfl ?_
      show Steps p.tables e below (T342.setTop (mkF m 675 #[.val (.int sd), .val (.int xs), .val (.int ys), .val (.int ws0), .val (.int hs), .val (.long pk), .second, .val (.int sd), .val (.ref b1), .val (.ref b2), .val (.int xx), .val (.int yy), .val (.int ww), .val (.int (1 : Int32)), .val (.int px), .val (.int py), .val (.int kx), .val (.ref im), .val (.ref pc), .val (.int ((((py * ww) + px) * (4 : Int32)) + kx)), .val (.int (((((yy + py) * (4 : Int32)) + (xx + px)) * (4 : Int32)) + kx))] [(.int (((((yy + py) * (4 : Int32)) + (xx + px)) * (4 : Int32)) + kx)), (.int sd), (.int ((sd + (Int32.ofNat (((yy.toNatClampNeg + py.toNatClampNeg) * 4 + xx.toNatClampNeg) * 4 + (4 * px.toNatClampNeg + kx.toNatClampNeg)))).toInt8.toInt32))])) _
      refine XS.iadd Xo344.here hx rfl (hb hby at_675) rfl ?_
      show Steps p.tables e below (T342.setTop (mkF m 676 #[.val (.int sd), .val (.int xs), .val (.int ys), .val (.int ws0), .val (.int hs), .val (.long pk), .second, .val (.int sd), .val (.ref b1), .val (.ref b2), .val (.int xx), .val (.int yy), .val (.int ww), .val (.int (1 : Int32)), .val (.int px), .val (.int py), .val (.int kx), .val (.ref im), .val (.ref pc), .val (.int ((((py * ww) + px) * (4 : Int32)) + kx)), .val (.int (((((yy + py) * (4 : Int32)) + (xx + px)) * (4 : Int32)) + kx))] [(.int (sd + (((((yy + py) * (4 : Int32)) + (xx + px)) * (4 : Int32)) + kx))), (.int ((sd + (Int32.ofNat (((yy.toNatClampNeg + py.toNatClampNeg) * 4 + xx.toNatClampNeg) * 4 + (4 * px.toNatClampNeg + kx.toNatClampNeg)))).toInt8.toInt32))])) _
      refine XT.i2b Xo344.here hx rfl (hb hby at_676) rfl ?_
      show Steps p.tables e below (T342.setTop (mkF m 677 #[.val (.int sd), .val (.int xs), .val (.int ys), .val (.int ws0), .val (.int hs), .val (.long pk), .second, .val (.int sd), .val (.ref b1), .val (.ref b2), .val (.int xx), .val (.int yy), .val (.int ww), .val (.int (1 : Int32)), .val (.int px), .val (.int py), .val (.int kx), .val (.ref im), .val (.ref pc), .val (.int ((((py * ww) + px) * (4 : Int32)) + kx)), .val (.int (((((yy + py) * (4 : Int32)) + (xx + px)) * (4 : Int32)) + kx))] [(.int ((sd + (((((yy + py) * (4 : Int32)) + (xx + px)) * (4 : Int32)) + kx)).toInt8.toInt32)), (.int ((sd + (Int32.ofNat (((yy.toNatClampNeg + py.toNatClampNeg) * 4 + xx.toNatClampNeg) * 4 + (4 * px.toNatClampNeg + kx.toNatClampNeg)))).toInt8.toInt32))])) _
      refine XS.icmpNo Xo344.here hx rfl (hb hby at_677) rfl (XT.ii_ne_f (by rw [go1])) ?_
      show Steps p.tables e below (T342.setTop (mkF m 680 #[.val (.int sd), .val (.int xs), .val (.int ys), .val (.int ws0), .val (.int hs), .val (.long pk), .second, .val (.int sd), .val (.ref b1), .val (.ref b2), .val (.int xx), .val (.int yy), .val (.int ww), .val (.int (1 : Int32)), .val (.int px), .val (.int py), .val (.int kx), .val (.ref im), .val (.ref pc), .val (.int ((((py * ww) + px) * (4 : Int32)) + kx)), .val (.int (((((yy + py) * (4 : Int32)) + (xx + px)) * (4 : Int32)) + kx))] [])) _
      refine XS.iconst Xo344.here hx rfl (hb hby at_680) ?_
      show Steps p.tables e below (T342.setTop (mkF m 681 #[.val (.int sd), .val (.int xs), .val (.int ys), .val (.int ws0), .val (.int hs), .val (.long pk), .second, .val (.int sd), .val (.ref b1), .val (.ref b2), .val (.int xx), .val (.int yy), .val (.int ww), .val (.int (1 : Int32)), .val (.int px), .val (.int py), .val (.int kx), .val (.ref im), .val (.ref pc), .val (.int ((((py * ww) + px) * (4 : Int32)) + kx)), .val (.int (((((yy + py) * (4 : Int32)) + (xx + px)) * (4 : Int32)) + kx))] [(.int (1 : Int32))])) _
      refine XS.goto Xo344.here hx rfl (pc0 := 681) (pc' := 685) rfl (hb hby at_681) (by decide) (by decide) ?_
      show Steps p.tables e below (T342.setTop (mkF m 685 #[.val (.int sd), .val (.int xs), .val (.int ys), .val (.int ws0), .val (.int hs), .val (.long pk), .second, .val (.int sd), .val (.ref b1), .val (.ref b2), .val (.int xx), .val (.int yy), .val (.int ww), .val (.int (1 : Int32)), .val (.int px), .val (.int py), .val (.int kx), .val (.ref im), .val (.ref pc), .val (.int ((((py * ww) + px) * (4 : Int32)) + kx)), .val (.int (((((yy + py) * (4 : Int32)) + (xx + px)) * (4 : Int32)) + kx))] [(.int (1 : Int32))])) _
      exact k
    obtain ⟨fs, hr, hrun, hended, hW, hsame⟩ := Xo344.leave (v := some (.int (1 : Int32))) (fun h => by rw [Bd.returns] at h; cases h)
    refine ⟨_, _, pre352 _ ?_, hrun, hended, _, _, rfl, ?_, ⟨_, rfl⟩, hW, hsame.mono (by decide) (by decide)⟩
    · exact retOut Xo344 hx Bd.returns rfl (Or.inl ⟨rfl, by simp, _, rfl⟩) (hb hby at_685) hr
    · show Qlaw Z sd xs ys ws0 hs pk h0 n0 _ T342.heap _
      rw [e342]
      exact ⟨rfl, No344⟩
  · subst hq
    have hpy2 : py.toNatClampNeg < 2 := hpy1
    have hyh2 : yy.toNatClampNeg + 2 ≤ 3 := hyh
    obtain ⟨cq355, kq355, q355a, q355b, q355c⟩ := isOf hZ e303 E306_1
    obtain ⟨_, _, ⟨T355, L355, k355, n355⟩, -, X355, ⟨Lc355, hQ355, l355, y355, z355⟩, st355⟩ := Xo305.virtualBack hx (y := (⟨"com/example/facetwork/facetwork/image/RgbaImage", "crop", "(IIII)Lcom/example/facetwork/facetwork/image/RgbaImage;"⟩ : MethodName)) (z := (⟨"com/example/facetwork/facetwork/image/RgbaImage", "crop", "(IIII)Lcom/example/facetwork/facetwork/image/RgbaImage;"⟩ : MethodName)) hown (mvT hZ (hw _ (List.mem_of_getElem? (i := 29) rfl))) (mvT hZ (hw _ (List.mem_of_getElem? (i := 30) rfl))) (notFace_of_selects (args := #[]) (mvT hZ (hw _ (List.mem_of_getElem? (i := 32) rfl)))) (mvT hZ (hw _ (List.mem_of_getElem? (i := 32) rfl))) (mvT hZ (hw _ (List.mem_of_getElem? (i := 31) rfl))) (by decide) (backOf (W := 0) (rm3h2 l Z a0 hw [] b2 xx yy ww pa cA3 (own_src sd) h303 n0 Z306 Fa303 Fb303 Fc303 Vq303 hx0 (by omega) hy0 (by omega) hw0 hwx hhy) hZ (hw _ (List.mem_of_getElem? (i := 33) rfl)) (hw _ (List.mem_of_getElem? (i := 3) rfl)) (by decide) (by decide)) q355a q355c (g := (mkF m 582 #[.val (.int sd), .val (.int xs), .val (.int ys), .val (.int ws0), .val (.int hs), .val (.long pk), .second, .val (.int sd), .val (.ref b1), .val (.ref b2), .val (.int xx), .val (.int yy), .val (.int ww), .val (.int (2 : Int32)), .val (.int px), .val (.int py), .val (.int kx), .unset, .unset, .unset, .unset] [(.int (2 : Int32)), (.int ww), (.int yy), (.int xx), (.ref b2)])) rfl (by rw [hml]; rfl) (Steps.refl _) (argsL := [(.int xx), (.int yy), (.int ww), (.int (2 : Int32))]) (rest := []) (lenOf pd_crop rfl) rfl (by show 2 * 0 + _ ≤ _; exact Nat.le_of_eq rfl) (hb hby at_582) (fun _ _ => ⟨rfl, e303, (by decide : 3 + 3 ≤ _), (by decide : 99 + 99 ≤ _)⟩)
    dsimp only [Pt.U, Pt.locs, Pt.cells, Pt.slots] at X355 l355 y355 z355 st355 hQ355
    subst l355 y355 z355
    obtain ⟨im, pb, kb, ud, rfl, Nq355, Kq355, Eq355, Fa355, Fb355, Fc355, Ep355, Vp355, Rq355⟩ := hQ355
    have N355 := Fr.app No305 Nq355
    have pre356 : ∀ t, Steps p.tables e below (T355.setTop (mkF m 585 #[.val (.int sd), .val (.int xs), .val (.int ys), .val (.int ws0), .val (.int hs), .val (.long pk), .second, .val (.int sd), .val (.ref b1), .val (.ref b2), .val (.int xx), .val (.int yy), .val (.int ww), .val (.int (2 : Int32)), .val (.int px), .val (.int py), .val (.int kx), .unset, .unset, .unset, .unset] [(.ref im)])) t → Steps p.tables e below (s₁.setTop (entryFrame m #[(.int sd), (.int xs), (.int ys), (.int ws0), (.int hs), (.long pk)] maxLocals)) t := fun t k => pre322 t (st355.trans k)
    obtain ⟨Lo357, Xo357, No357⟩ : ∃ L, Stand p l e room_1 s m #[(.int sd), (.int xs), (.int ys), (.int ws0), (.int hs), (.long pk)] below meth c T355 L 6 198 ∧ Fr n0 L := ⟨_, X355, N355⟩
    obtain ⟨h355, e355⟩ : ∃ z, T355.heap = z := ⟨_, rfl⟩
    rw [e355] at Kq355 Eq355 Fa355 Fb355 Fc355 Ep355 Vp355
    have Z358 : n0 ≤ h355.size := (Nat.le_trans Z306 Kq355.1)
    have pre360 : ∀ t, Steps p.tables e below (T355.setTop (mkF m 589 #[.val (.int sd), .val (.int xs), .val (.int ys), .val (.int ws0), .val (.int hs), .val (.long pk), .second, .val (.int sd), .val (.ref b1), .val (.ref b2), .val (.int xx), .val (.int yy), .val (.int ww), .val (.int (2 : Int32)), .val (.int px), .val (.int py), .val (.int kx), .val (.ref im), .unset, .unset, .unset] [(.ref im)])) t → Steps p.tables e below (s₁.setTop (entryFrame m #[(.int sd), (.int xs), (.int ys), (.int ws0), (.int hs), (.long pk)] maxLocals)) t := by
      intro t k
      refine pre356 t ?_
      refine XS.astore Xo357.here hx rfl (hb hby at_585) rfl rfl (l' := #[.val (.int sd), .val (.int xs), .val (.int ys), .val (.int ws0), .val (.int hs), .val (.long pk), .second, .val (.int sd), .val (.ref b1), .val (.ref b2), .val (.int xx), .val (.int yy), .val (.int ww), .val (.int (2 : Int32)), .val (.int px), .val (.int py), .val (.int kx), .val (.ref im), .unset, .unset, .unset]) rfl ?_
      show Steps p.tables e below (T355.setTop (mkF m 587 #[.val (.int sd), .val (.int xs), .val (.int ys), .val (.int ws0), .val (.int hs), .val (.long pk), .second, .val (.int sd), .val (.ref b1), .val (.ref b2), .val (.int xx), .val (.int yy), .val (.int ww), .val (.int (2 : Int32)), .val (.int px), .val (.int py), .val (.int kx), .val (.ref im), .unset, .unset, .unset] [])) _
      refine XS.aload Xo357.here hx rfl (hb hby at_587) rfl rfl ?_
      show Steps p.tables e below (T355.setTop (mkF m 589 #[.val (.int sd), .val (.int xs), .val (.int ys), .val (.int ws0), .val (.int hs), .val (.long pk), .second, .val (.int sd), .val (.ref b1), .val (.ref b2), .val (.int xx), .val (.int yy), .val (.int ww), .val (.int (2 : Int32)), .val (.int px), .val (.int py), .val (.int kx), .val (.ref im), .unset, .unset, .unset] [(.ref im)])) _
      exact k
    obtain ⟨cq361, kq361, q361a, q361b, q361c⟩ := isOf hZ e355 Eq355
    obtain ⟨_, _, ⟨T361, L361, k361, n361⟩, -, X361, ⟨Lc361, hQ361, l361, y361, z361⟩, st361⟩ := Xo357.virtualBack hx (y := (⟨"com/example/facetwork/facetwork/image/RgbaImage", "width", "()I"⟩ : MethodName)) (z := (⟨"com/example/facetwork/facetwork/image/RgbaImage", "width", "()I"⟩ : MethodName)) hown (mvT hZ (hw _ (List.mem_of_getElem? (i := 40) rfl))) (mvT hZ (hw _ (List.mem_of_getElem? (i := 41) rfl))) (notFace_of_selects (args := #[]) (mvT hZ (hw _ (List.mem_of_getElem? (i := 43) rfl)))) (mvT hZ (hw _ (List.mem_of_getElem? (i := 43) rfl))) (mvT hZ (hw _ (List.mem_of_getElem? (i := 42) rfl))) (by decide) (backOf (W := 0) (rm4 l Z a0 hw [] im ww h355 n0 Z358 Fa355) hZ (hw _ (List.mem_of_getElem? (i := 44) rfl)) (hw _ (List.mem_of_getElem? (i := 3) rfl)) (by decide) (by decide)) q361a q361c (g := (mkF m 589 #[.val (.int sd), .val (.int xs), .val (.int ys), .val (.int ws0), .val (.int hs), .val (.long pk), .second, .val (.int sd), .val (.ref b1), .val (.ref b2), .val (.int xx), .val (.int yy), .val (.int ww), .val (.int (2 : Int32)), .val (.int px), .val (.int py), .val (.int kx), .val (.ref im), .unset, .unset, .unset] [(.ref im)])) rfl (by rw [hml]; rfl) (Steps.refl _) (argsL := []) (rest := []) (lenOf pd_i rfl) rfl (by show 2 * 0 + _ ≤ _; exact Nat.le_of_eq rfl) (hb hby at_589) (fun _ _ => ⟨rfl, e355, (by decide : 6 + 0 ≤ _), (by decide : 198 + 0 ≤ _)⟩)
    dsimp only [Pt.U, Pt.locs, Pt.cells, Pt.slots] at X361 l361 y361 z361 st361 hQ361
    subst l361 y361 z361
    obtain ⟨rfl, Nq361, heq361⟩ := hQ361
    have N361 := Fr.app No357 Nq361
    have pre362 : ∀ t, Steps p.tables e below (T361.setTop (mkF m 592 #[.val (.int sd), .val (.int xs), .val (.int ys), .val (.int ws0), .val (.int hs), .val (.long pk), .second, .val (.int sd), .val (.ref b1), .val (.ref b2), .val (.int xx), .val (.int yy), .val (.int ww), .val (.int (2 : Int32)), .val (.int px), .val (.int py), .val (.int kx), .val (.ref im), .unset, .unset, .unset] [(.int ww)])) t → Steps p.tables e below (s₁.setTop (entryFrame m #[(.int sd), (.int xs), (.int ys), (.int ws0), (.int hs), (.long pk)] maxLocals)) t := fun t k => pre360 t (st361.trans k)
    obtain ⟨Lo363, Xo363, No363⟩ : ∃ L, Stand p l e room_1 s m #[(.int sd), (.int xs), (.int ys), (.int ws0), (.int hs), (.long pk)] below meth c T361 L 6 198 ∧ Fr n0 L := ⟨_, X361, N361⟩
    have pre365 : ∀ t, Steps p.tables e below (T361.setTop (mkF m 599 #[.val (.int sd), .val (.int xs), .val (.int ys), .val (.int ws0), .val (.int hs), .val (.long pk), .second, .val (.int sd), .val (.ref b1), .val (.ref b2), .val (.int xx), .val (.int yy), .val (.int ww), .val (.int (2 : Int32)), .val (.int px), .val (.int py), .val (.int kx), .val (.ref im), .unset, .unset, .unset] [(.ref im)])) t → Steps p.tables e below (s₁.setTop (entryFrame m #[(.int sd), (.int xs), (.int ys), (.int ws0), (.int hs), (.long pk)] maxLocals)) t := by
      intro t k
      refine pre362 t ?_
      refine XS.iload Xo363.here hx rfl (hb hby at_592) rfl ?_
      show Steps p.tables e below (T361.setTop (mkF m 594 #[.val (.int sd), .val (.int xs), .val (.int ys), .val (.int ws0), .val (.int hs), .val (.long pk), .second, .val (.int sd), .val (.ref b1), .val (.ref b2), .val (.int xx), .val (.int yy), .val (.int ww), .val (.int (2 : Int32)), .val (.int px), .val (.int py), .val (.int kx), .val (.ref im), .unset, .unset, .unset] [(.int ww), (.int ww)])) _
      refine XS.icmpNo Xo363.here hx rfl (hb hby at_594) rfl (XT.ii_ne_f rfl) ?_
      show Steps p.tables e below (T361.setTop (mkF m 597 #[.val (.int sd), .val (.int xs), .val (.int ys), .val (.int ws0), .val (.int hs), .val (.long pk), .second, .val (.int sd), .val (.ref b1), .val (.ref b2), .val (.int xx), .val (.int yy), .val (.int ww), .val (.int (2 : Int32)), .val (.int px), .val (.int py), .val (.int kx), .val (.ref im), .unset, .unset, .unset] [])) _
      refine XS.aload Xo363.here hx rfl (hb hby at_597) rfl rfl ?_
      show Steps p.tables e below (T361.setTop (mkF m 599 #[.val (.int sd), .val (.int xs), .val (.int ys), .val (.int ws0), .val (.int hs), .val (.long pk), .second, .val (.int sd), .val (.ref b1), .val (.ref b2), .val (.int xx), .val (.int yy), .val (.int ww), .val (.int (2 : Int32)), .val (.int px), .val (.int py), .val (.int kx), .val (.ref im), .unset, .unset, .unset] [(.ref im)])) _
      exact k
    obtain ⟨cq367, kq367, q367a, q367b, q367c⟩ := isOf hZ heq361 Eq355
    obtain ⟨_, _, ⟨T367, L367, k367, n367⟩, -, X367, ⟨Lc367, hQ367, l367, y367, z367⟩, st367⟩ := Xo363.virtualBack hx (y := (⟨"com/example/facetwork/facetwork/image/RgbaImage", "height", "()I"⟩ : MethodName)) (z := (⟨"com/example/facetwork/facetwork/image/RgbaImage", "height", "()I"⟩ : MethodName)) hown (mvT hZ (hw _ (List.mem_of_getElem? (i := 45) rfl))) (mvT hZ (hw _ (List.mem_of_getElem? (i := 46) rfl))) (notFace_of_selects (args := #[]) (mvT hZ (hw _ (List.mem_of_getElem? (i := 48) rfl)))) (mvT hZ (hw _ (List.mem_of_getElem? (i := 48) rfl))) (mvT hZ (hw _ (List.mem_of_getElem? (i := 47) rfl))) (by decide) (backOf (W := 0) (rm5 l Z a0 hw [] im (2 : Int32) h355 n0 Z358 Fb355) hZ (hw _ (List.mem_of_getElem? (i := 49) rfl)) (hw _ (List.mem_of_getElem? (i := 3) rfl)) (by decide) (by decide)) q367a q367c (g := (mkF m 599 #[.val (.int sd), .val (.int xs), .val (.int ys), .val (.int ws0), .val (.int hs), .val (.long pk), .second, .val (.int sd), .val (.ref b1), .val (.ref b2), .val (.int xx), .val (.int yy), .val (.int ww), .val (.int (2 : Int32)), .val (.int px), .val (.int py), .val (.int kx), .val (.ref im), .unset, .unset, .unset] [(.ref im)])) rfl (by rw [hml]; rfl) (Steps.refl _) (argsL := []) (rest := []) (lenOf pd_i rfl) rfl (by show 2 * 0 + _ ≤ _; exact Nat.le_of_eq rfl) (hb hby at_599) (fun _ _ => ⟨rfl, heq361, (by decide : 6 + 0 ≤ _), (by decide : 198 + 0 ≤ _)⟩)
    dsimp only [Pt.U, Pt.locs, Pt.cells, Pt.slots] at X367 l367 y367 z367 st367 hQ367
    subst l367 y367 z367
    obtain ⟨rfl, Nq367, heq367⟩ := hQ367
    have N367 := Fr.app No363 Nq367
    have pre368 : ∀ t, Steps p.tables e below (T367.setTop (mkF m 602 #[.val (.int sd), .val (.int xs), .val (.int ys), .val (.int ws0), .val (.int hs), .val (.long pk), .second, .val (.int sd), .val (.ref b1), .val (.ref b2), .val (.int xx), .val (.int yy), .val (.int ww), .val (.int (2 : Int32)), .val (.int px), .val (.int py), .val (.int kx), .val (.ref im), .unset, .unset, .unset] [(.int (2 : Int32))])) t → Steps p.tables e below (s₁.setTop (entryFrame m #[(.int sd), (.int xs), (.int ys), (.int ws0), (.int hs), (.long pk)] maxLocals)) t := fun t k => pre365 t (st367.trans k)
    obtain ⟨Lo369, Xo369, No369⟩ : ∃ L, Stand p l e room_1 s m #[(.int sd), (.int xs), (.int ys), (.int ws0), (.int hs), (.long pk)] below meth c T367 L 6 198 ∧ Fr n0 L := ⟨_, X367, N367⟩
    have pre371 : ∀ t, Steps p.tables e below (T367.setTop (mkF m 611 #[.val (.int sd), .val (.int xs), .val (.int ys), .val (.int ws0), .val (.int hs), .val (.long pk), .second, .val (.int sd), .val (.ref b1), .val (.ref b2), .val (.int xx), .val (.int yy), .val (.int ww), .val (.int (2 : Int32)), .val (.int px), .val (.int py), .val (.int kx), .val (.ref im), .unset, .unset, .unset] [(.ref im)])) t → Steps p.tables e below (s₁.setTop (entryFrame m #[(.int sd), (.int xs), (.int ys), (.int ws0), (.int hs), (.long pk)] maxLocals)) t := by
      intro t k
      refine pre368 t ?_
      refine XS.iload Xo369.here hx rfl (hb hby at_602) rfl ?_
      show Steps p.tables e below (T367.setTop (mkF m 604 #[.val (.int sd), .val (.int xs), .val (.int ys), .val (.int ws0), .val (.int hs), .val (.long pk), .second, .val (.int sd), .val (.ref b1), .val (.ref b2), .val (.int xx), .val (.int yy), .val (.int ww), .val (.int (2 : Int32)), .val (.int px), .val (.int py), .val (.int kx), .val (.ref im), .unset, .unset, .unset] [(.int (2 : Int32)), (.int (2 : Int32))])) _
      refine XS.icmpYes Xo369.here hx rfl (pc0 := 604) (pc' := 609) rfl (hb hby at_604) rfl (XT.ii_eq_t rfl) (by decide) (by decide) ?_
      show Steps p.tables e below (T367.setTop (mkF m 609 #[.val (.int sd), .val (.int xs), .val (.int ys), .val (.int ws0), .val (.int hs), .val (.long pk), .second, .val (.int sd), .val (.ref b1), .val (.ref b2), .val (.int xx), .val (.int yy), .val (.int ww), .val (.int (2 : Int32)), .val (.int px), .val (.int py), .val (.int kx), .val (.ref im), .unset, .unset, .unset] [])) _
      refine XS.aload Xo369.here hx rfl (hb hby at_609) rfl rfl ?_
      show Steps p.tables e below (T367.setTop (mkF m 611 #[.val (.int sd), .val (.int xs), .val (.int ys), .val (.int ws0), .val (.int hs), .val (.long pk), .second, .val (.int sd), .val (.ref b1), .val (.ref b2), .val (.int xx), .val (.int yy), .val (.int ww), .val (.int (2 : Int32)), .val (.int px), .val (.int py), .val (.int kx), .val (.ref im), .unset, .unset, .unset] [(.ref im)])) _
      exact k
    obtain ⟨hn1, hn2⟩ := own_n2 hw1 hw4
    have hnc := own_clamp hn1
    obtain ⟨cq373, kq373, q373a, q373b, q373c⟩ := isOf hZ heq367 Eq355
    obtain ⟨_, _, ⟨T373, L373, k373, n373⟩, -, X373, ⟨Lc373, hQ373, l373, y373, z373⟩, st373⟩ := Xo369.virtualBack hx (y := (⟨"com/example/facetwork/facetwork/image/RgbaImage", "pixels", "()[B"⟩ : MethodName)) (z := (⟨"com/example/facetwork/facetwork/image/RgbaImage", "pixels", "()[B"⟩ : MethodName)) hown (mvT hZ (hw _ (List.mem_of_getElem? (i := 50) rfl))) (mvT hZ (hw _ (List.mem_of_getElem? (i := 51) rfl))) (notFace_of_selects (args := #[]) (mvT hZ (hw _ (List.mem_of_getElem? (i := 53) rfl)))) (mvT hZ (hw _ (List.mem_of_getElem? (i := 53) rfl))) (mvT hZ (hw _ (List.mem_of_getElem? (i := 52) rfl))) (by decide) (backOf (W := 0) (rm6 l Z a0 hw [] im pb kb ((ww * (2 : Int32)) * (4 : Int32)) ud h355 n0 Z358 Fc355 Ep355 Vp355 (by rw [hnc]; omega)) hZ (hw _ (List.mem_of_getElem? (i := 54) rfl)) (hw _ (List.mem_of_getElem? (i := 3) rfl)) (by decide) (by decide)) q373a q373c (g := (mkF m 611 #[.val (.int sd), .val (.int xs), .val (.int ys), .val (.int ws0), .val (.int hs), .val (.long pk), .second, .val (.int sd), .val (.ref b1), .val (.ref b2), .val (.int xx), .val (.int yy), .val (.int ww), .val (.int (2 : Int32)), .val (.int px), .val (.int py), .val (.int kx), .val (.ref im), .unset, .unset, .unset] [(.ref im)])) rfl (by rw [hml]; rfl) (Steps.refl _) (argsL := []) (rest := []) (lenOf pd_pix rfl) rfl (by show 2 * 0 + _ ≤ _; exact Nat.le_of_eq rfl) (hb hby at_611) (fun _ _ => ⟨rfl, heq367, (by decide : 6 + 1 ≤ _), (by decide : 198 + 48 ≤ _)⟩)
    dsimp only [Pt.U, Pt.locs, Pt.cells, Pt.slots] at X373 l373 y373 z373 st373 hQ373
    subst l373 y373 z373
    obtain ⟨pc, rfl, Nq373, Kq373, Vp373⟩ := hQ373
    have N373 := Fr.app No369 Nq373
    have pre374 : ∀ t, Steps p.tables e below (T373.setTop (mkF m 614 #[.val (.int sd), .val (.int xs), .val (.int ys), .val (.int ws0), .val (.int hs), .val (.long pk), .second, .val (.int sd), .val (.ref b1), .val (.ref b2), .val (.int xx), .val (.int yy), .val (.int ww), .val (.int (2 : Int32)), .val (.int px), .val (.int py), .val (.int kx), .val (.ref im), .unset, .unset, .unset] [(.ref pc)])) t → Steps p.tables e below (s₁.setTop (entryFrame m #[(.int sd), (.int xs), (.int ys), (.int ws0), (.int hs), (.long pk)] maxLocals)) t := fun t k => pre371 t (st373.trans k)
    obtain ⟨Lo375, Xo375, No375⟩ : ∃ L, Stand p l e room_1 s m #[(.int sd), (.int xs), (.int ys), (.int ws0), (.int hs), (.long pk)] below meth c T373 L 7 246 ∧ Fr n0 L := ⟨_, X373, N373⟩
    obtain ⟨h373, e373⟩ : ∃ z, T373.heap = z := ⟨_, rfl⟩
    rw [e373] at Kq373 Vp373
    have Z376 : n0 ≤ h373.size := (Nat.le_trans Z358 Kq373.1)
    have pre377 : ∀ t, Steps p.tables e below (T373.setTop (mkF m 618 #[.val (.int sd), .val (.int xs), .val (.int ys), .val (.int ws0), .val (.int hs), .val (.long pk), .second, .val (.int sd), .val (.ref b1), .val (.ref b2), .val (.int xx), .val (.int yy), .val (.int ww), .val (.int (2 : Int32)), .val (.int px), .val (.int py), .val (.int kx), .val (.ref im), .val (.ref pc), .unset, .unset] [(.ref pc)])) t → Steps p.tables e below (s₁.setTop (entryFrame m #[(.int sd), (.int xs), (.int ys), (.int ws0), (.int hs), (.long pk)] maxLocals)) t := by
      intro t k
      refine pre374 t ?_
      refine XS.astore Xo375.here hx rfl (hb hby at_614) rfl rfl (l' := #[.val (.int sd), .val (.int xs), .val (.int ys), .val (.int ws0), .val (.int hs), .val (.long pk), .second, .val (.int sd), .val (.ref b1), .val (.ref b2), .val (.int xx), .val (.int yy), .val (.int ww), .val (.int (2 : Int32)), .val (.int px), .val (.int py), .val (.int kx), .val (.ref im), .val (.ref pc), .unset, .unset]) rfl ?_
      show Steps p.tables e below (T373.setTop (mkF m 616 #[.val (.int sd), .val (.int xs), .val (.int ys), .val (.int ws0), .val (.int hs), .val (.long pk), .second, .val (.int sd), .val (.ref b1), .val (.ref b2), .val (.int xx), .val (.int yy), .val (.int ww), .val (.int (2 : Int32)), .val (.int px), .val (.int py), .val (.int kx), .val (.ref im), .val (.ref pc), .unset, .unset] [])) _
      refine XS.aload Xo375.here hx rfl (hb hby at_616) rfl rfl ?_
      show Steps p.tables e below (T373.setTop (mkF m 618 #[.val (.int sd), .val (.int xs), .val (.int ys), .val (.int ws0), .val (.int hs), .val (.long pk), .second, .val (.int sd), .val (.ref b1), .val (.ref b2), .val (.int xx), .val (.int yy), .val (.int ww), .val (.int (2 : Int32)), .val (.int px), .val (.int py), .val (.int kx), .val (.ref im), .val (.ref pc), .unset, .unset] [(.ref pc)])) _
      exact k
    obtain ⟨cc378, Ar378, q1_378, Sz378, q3_378, Hs378, G378⟩ := id Vp373
    obtain ⟨gq1, gq2⟩ := own_q hw1 hw4 hpy0 hpy2 (by decide) hpx0 hpx1 hk0 hk4
    obtain ⟨go1, go2⟩ := own_o hy0 hpy0 hx0 hpx0 hk0 (by omega) (by omega) hk4
    have gqc := own_clamp gq1
    have hval := (Rq355.2 _ hpy2 _ gq2).trans (own_at sd _ go2)
    have gqm : py.toNatClampNeg * (4 * ww.toNatClampNeg) + (4 * px.toNatClampNeg + kx.toNatClampNeg) < 2 * (4 * ww.toNatClampNeg) := by
      rcases (by omega : py.toNatClampNeg = 0 ∨ py.toNatClampNeg = 1 ∨ py.toNatClampNeg = 2) with q | q | q <;> rw [q] <;> omega
    have pre380 : ∀ t, Steps p.tables e below (T373.setTop (mkF m 670 #[.val (.int sd), .val (.int xs), .val (.int ys), .val (.int ws0), .val (.int hs), .val (.long pk), .second, .val (.int sd), .val (.ref b1), .val (.ref b2), .val (.int xx), .val (.int yy), .val (.int ww), .val (.int (2 : Int32)), .val (.int px), .val (.int py), .val (.int kx), .val (.ref im), .val (.ref pc), .val (.int ((((py * ww) + px) * (4 : Int32)) + kx)), .val (.int (((((yy + py) * (4 : Int32)) + (xx + px)) * (4 : Int32)) + kx))] [(.int ((((py * ww) + px) * (4 : Int32)) + kx)), (.ref pc)])) t → Steps p.tables e below (s₁.setTop (entryFrame m #[(.int sd), (.int xs), (.int ys), (.int ws0), (.int hs), (.long pk)] maxLocals)) t := by
      intro t k
      refine pre377 t ?_
      refine Xo375.arraylength hx (by rw [e373]; exact Ar378.1) (State.isArrayOf_alike hZ.alike Ar378.2.1) (g := (mkF m 618 #[.val (.int sd), .val (.int xs), .val (.int ys), .val (.int ws0), .val (.int hs), .val (.long pk), .second, .val (.int sd), .val (.ref b1), .val (.ref b2), .val (.int xx), .val (.int yy), .val (.int ww), .val (.int (2 : Int32)), .val (.int px), .val (.int py), .val (.int kx), .val (.ref im), .val (.ref pc), .unset, .unset] [(.ref pc)])) rfl rfl (hb hby at_618) _ ?_
      rw [len_of Sz378 q3_378]
      show Steps p.tables e below (T373.setTop (mkF m 619 #[.val (.int sd), .val (.int xs), .val (.int ys), .val (.int ws0), .val (.int hs), .val (.long pk), .second, .val (.int sd), .val (.ref b1), .val (.ref b2), .val (.int xx), .val (.int yy), .val (.int ww), .val (.int (2 : Int32)), .val (.int px), .val (.int py), .val (.int kx), .val (.ref im), .val (.ref pc), .unset, .unset] [(.int ((ww * (2 : Int32)) * (4 : Int32)))])) _
      refine XS.iload Xo375.here hx rfl (hb hby at_619) rfl ?_
      show Steps p.tables e below (T373.setTop (mkF m 621 #[.val (.int sd), .val (.int xs), .val (.int ys), .val (.int ws0), .val (.int hs), .val (.long pk), .second, .val (.int sd), .val (.ref b1), .val (.ref b2), .val (.int xx), .val (.int yy), .val (.int ww), .val (.int (2 : Int32)), .val (.int px), .val (.int py), .val (.int kx), .val (.ref im), .val (.ref pc), .unset, .unset] [(.int ww), (.int ((ww * (2 : Int32)) * (4 : Int32)))])) _
      refine XS.iload Xo375.here hx rfl (hb hby at_621) rfl ?_
      show Steps p.tables e below (T373.setTop (mkF m 623 #[.val (.int sd), .val (.int xs), .val (.int ys), .val (.int ws0), .val (.int hs), .val (.long pk), .second, .val (.int sd), .val (.ref b1), .val (.ref b2), .val (.int xx), .val (.int yy), .val (.int ww), .val (.int (2 : Int32)), .val (.int px), .val (.int py), .val (.int kx), .val (.ref im), .val (.ref pc), .unset, .unset] [(.int (2 : Int32)), (.int ww), (.int ((ww * (2 : Int32)) * (4 : Int32)))])) _
      refine XS.imul Xo375.here hx rfl (hb hby at_623) rfl ?_
      show Steps p.tables e below (T373.setTop (mkF m 624 #[.val (.int sd), .val (.int xs), .val (.int ys), .val (.int ws0), .val (.int hs), .val (.long pk), .second, .val (.int sd), .val (.ref b1), .val (.ref b2), .val (.int xx), .val (.int yy), .val (.int ww), .val (.int (2 : Int32)), .val (.int px), .val (.int py), .val (.int kx), .val (.ref im), .val (.ref pc), .unset, .unset] [(.int (ww * (2 : Int32))), (.int ((ww * (2 : Int32)) * (4 : Int32)))])) _
      refine XS.iconst Xo375.here hx rfl (hb hby at_624) ?_
      show Steps p.tables e below (T373.setTop (mkF m 625 #[.val (.int sd), .val (.int xs), .val (.int ys), .val (.int ws0), .val (.int hs), .val (.long pk), .second, .val (.int sd), .val (.ref b1), .val (.ref b2), .val (.int xx), .val (.int yy), .val (.int ww), .val (.int (2 : Int32)), .val (.int px), .val (.int py), .val (.int kx), .val (.ref im), .val (.ref pc), .unset, .unset] [(.int (4 : Int32)), (.int (ww * (2 : Int32))), (.int ((ww * (2 : Int32)) * (4 : Int32)))])) _
      refine XS.imul Xo375.here hx rfl (hb hby at_625) rfl ?_
      show Steps p.tables e below (T373.setTop (mkF m 626 #[.val (.int sd), .val (.int xs), .val (.int ys), .val (.int ws0), .val (.int hs), .val (.long pk), .second, .val (.int sd), .val (.ref b1), .val (.ref b2), .val (.int xx), .val (.int yy), .val (.int ww), .val (.int (2 : Int32)), .val (.int px), .val (.int py), .val (.int kx), .val (.ref im), .val (.ref pc), .unset, .unset] [(.int ((ww * (2 : Int32)) * (4 : Int32))), (.int ((ww * (2 : Int32)) * (4 : Int32)))])) _
      refine XS.icmpYes Xo375.here hx rfl (pc0 := 626) (pc' := 631) rfl (hb hby at_626) rfl (XT.ii_eq_t rfl) (by decide) (by decide) ?_
      show Steps p.tables e below (T373.setTop (mkF m 631 #[.val (.int sd), .val (.int xs), .val (.int ys), .val (.int ws0), .val (.int hs), .val (.long pk), .second, .val (.int sd), .val (.ref b1), .val (.ref b2), .val (.int xx), .val (.int yy), .val (.int ww), .val (.int (2 : Int32)), .val (.int px), .val (.int py), .val (.int kx), .val (.ref im), .val (.ref pc), .unset, .unset] [])) _
      refine XS.iload Xo375.here hx rfl (hb hby at_631) rfl ?_
      show Steps p.tables e below (T373.setTop (mkF m 633 #[.val (.int sd), .val (.int xs), .val (.int ys), .val (.int ws0), .val (.int hs), .val (.long pk), .second, .val (.int sd), .val (.ref b1), .val (.ref b2), .val (.int xx), .val (.int yy), .val (.int ww), .val (.int (2 : Int32)), .val (.int px), .val (.int py), .val (.int kx), .val (.ref im), .val (.ref pc), .unset, .unset] [(.int py)])) _
      refine XS.iload Xo375.here hx rfl (hb hby at_633) rfl ?_
      show Steps p.tables e below (T373.setTop (mkF m 635 #[.val (.int sd), .val (.int xs), .val (.int ys), .val (.int ws0), .val (.int hs), .val (.long pk), .second, .val (.int sd), .val (.ref b1), .val (.ref b2), .val (.int xx), .val (.int yy), .val (.int ww), .val (.int (2 : Int32)), .val (.int px), .val (.int py), .val (.int kx), .val (.ref im), .val (.ref pc), .unset, .unset] [(.int ww), (.int py)])) _
      refine XS.imul Xo375.here hx rfl (hb hby at_635) rfl ?_
      show Steps p.tables e below (T373.setTop (mkF m 636 #[.val (.int sd), .val (.int xs), .val (.int ys), .val (.int ws0), .val (.int hs), .val (.long pk), .second, .val (.int sd), .val (.ref b1), .val (.ref b2), .val (.int xx), .val (.int yy), .val (.int ww), .val (.int (2 : Int32)), .val (.int px), .val (.int py), .val (.int kx), .val (.ref im), .val (.ref pc), .unset, .unset] [(.int (py * ww))])) _
      refine XS.iload Xo375.here hx rfl (hb hby at_636) rfl ?_
      show Steps p.tables e below (T373.setTop (mkF m 638 #[.val (.int sd), .val (.int xs), .val (.int ys), .val (.int ws0), .val (.int hs), .val (.long pk), .second, .val (.int sd), .val (.ref b1), .val (.ref b2), .val (.int xx), .val (.int yy), .val (.int ww), .val (.int (2 : Int32)), .val (.int px), .val (.int py), .val (.int kx), .val (.ref im), .val (.ref pc), .unset, .unset] [(.int px), (.int (py * ww))])) _
      refine XS.iadd Xo375.here hx rfl (hb hby at_638) rfl ?_
      show Steps p.tables e below (T373.setTop (mkF m 639 #[.val (.int sd), .val (.int xs), .val (.int ys), .val (.int ws0), .val (.int hs), .val (.long pk), .second, .val (.int sd), .val (.ref b1), .val (.ref b2), .val (.int xx), .val (.int yy), .val (.int ww), .val (.int (2 : Int32)), .val (.int px), .val (.int py), .val (.int kx), .val (.ref im), .val (.ref pc), .unset, .unset] [(.int ((py * ww) + px))])) _
      refine XS.iconst Xo375.here hx rfl (hb hby at_639) ?_
      show Steps p.tables e below (T373.setTop (mkF m 640 #[.val (.int sd), .val (.int xs), .val (.int ys), .val (.int ws0), .val (.int hs), .val (.long pk), .second, .val (.int sd), .val (.ref b1), .val (.ref b2), .val (.int xx), .val (.int yy), .val (.int ww), .val (.int (2 : Int32)), .val (.int px), .val (.int py), .val (.int kx), .val (.ref im), .val (.ref pc), .unset, .unset] [(.int (4 : Int32)), (.int ((py * ww) + px))])) _
      refine XS.imul Xo375.here hx rfl (hb hby at_640) rfl ?_
      show Steps p.tables e below (T373.setTop (mkF m 641 #[.val (.int sd), .val (.int xs), .val (.int ys), .val (.int ws0), .val (.int hs), .val (.long pk), .second, .val (.int sd), .val (.ref b1), .val (.ref b2), .val (.int xx), .val (.int yy), .val (.int ww), .val (.int (2 : Int32)), .val (.int px), .val (.int py), .val (.int kx), .val (.ref im), .val (.ref pc), .unset, .unset] [(.int (((py * ww) + px) * (4 : Int32)))])) _
      refine XS.iload Xo375.here hx rfl (hb hby at_641) rfl ?_
      show Steps p.tables e below (T373.setTop (mkF m 643 #[.val (.int sd), .val (.int xs), .val (.int ys), .val (.int ws0), .val (.int hs), .val (.long pk), .second, .val (.int sd), .val (.ref b1), .val (.ref b2), .val (.int xx), .val (.int yy), .val (.int ww), .val (.int (2 : Int32)), .val (.int px), .val (.int py), .val (.int kx), .val (.ref im), .val (.ref pc), .unset, .unset] [(.int kx), (.int (((py * ww) + px) * (4 : Int32)))])) _
      refine XS.iadd Xo375.here hx rfl (hb hby at_643) rfl ?_
      show Steps p.tables e below (T373.setTop (mkF m 644 #[.val (.int sd), .val (.int xs), .val (.int ys), .val (.int ws0), .val (.int hs), .val (.long pk), .second, .val (.int sd), .val (.ref b1), .val (.ref b2), .val (.int xx), .val (.int yy), .val (.int ww), .val (.int (2 : Int32)), .val (.int px), .val (.int py), .val (.int kx), .val (.ref im), .val (.ref pc), .unset, .unset] [(.int ((((py * ww) + px) * (4 : Int32)) + kx))])) _
      refine XS.istore Xo375.here hx rfl (hb hby at_644) rfl (l' := #[.val (.int sd), .val (.int xs), .val (.int ys), .val (.int ws0), .val (.int hs), .val (.long pk), .second, .val (.int sd), .val (.ref b1), .val (.ref b2), .val (.int xx), .val (.int yy), .val (.int ww), .val (.int (2 : Int32)), .val (.int px), .val (.int py), .val (.int kx), .val (.ref im), .val (.ref pc), .val (.int ((((py * ww) + px) * (4 : Int32)) + kx)), .unset]) rfl ?_
      show Steps p.tables e below (T373.setTop (mkF m 646 #[.val (.int sd), .val (.int xs), .val (.int ys), .val (.int ws0), .val (.int hs), .val (.long pk), .second, .val (.int sd), .val (.ref b1), .val (.ref b2), .val (.int xx), .val (.int yy), .val (.int ww), .val (.int (2 : Int32)), .val (.int px), .val (.int py), .val (.int kx), .val (.ref im), .val (.ref pc), .val (.int ((((py * ww) + px) * (4 : Int32)) + kx)), .unset] [])) _
      refine XS.iload Xo375.here hx rfl (hb hby at_646) rfl ?_
      show Steps p.tables e below (T373.setTop (mkF m 648 #[.val (.int sd), .val (.int xs), .val (.int ys), .val (.int ws0), .val (.int hs), .val (.long pk), .second, .val (.int sd), .val (.ref b1), .val (.ref b2), .val (.int xx), .val (.int yy), .val (.int ww), .val (.int (2 : Int32)), .val (.int px), .val (.int py), .val (.int kx), .val (.ref im), .val (.ref pc), .val (.int ((((py * ww) + px) * (4 : Int32)) + kx)), .unset] [(.int yy)])) _
      refine XS.iload Xo375.here hx rfl (hb hby at_648) rfl ?_
      show Steps p.tables e below (T373.setTop (mkF m 650 #[.val (.int sd), .val (.int xs), .val (.int ys), .val (.int ws0), .val (.int hs), .val (.long pk), .second, .val (.int sd), .val (.ref b1), .val (.ref b2), .val (.int xx), .val (.int yy), .val (.int ww), .val (.int (2 : Int32)), .val (.int px), .val (.int py), .val (.int kx), .val (.ref im), .val (.ref pc), .val (.int ((((py * ww) + px) * (4 : Int32)) + kx)), .unset] [(.int py), (.int yy)])) _
      refine XS.iadd Xo375.here hx rfl (hb hby at_650) rfl ?_
      show Steps p.tables e below (T373.setTop (mkF m 651 #[.val (.int sd), .val (.int xs), .val (.int ys), .val (.int ws0), .val (.int hs), .val (.long pk), .second, .val (.int sd), .val (.ref b1), .val (.ref b2), .val (.int xx), .val (.int yy), .val (.int ww), .val (.int (2 : Int32)), .val (.int px), .val (.int py), .val (.int kx), .val (.ref im), .val (.ref pc), .val (.int ((((py * ww) + px) * (4 : Int32)) + kx)), .unset] [(.int (yy + py))])) _
      refine XS.iconst Xo375.here hx rfl (hb hby at_651) ?_
      show Steps p.tables e below (T373.setTop (mkF m 652 #[.val (.int sd), .val (.int xs), .val (.int ys), .val (.int ws0), .val (.int hs), .val (.long pk), .second, .val (.int sd), .val (.ref b1), .val (.ref b2), .val (.int xx), .val (.int yy), .val (.int ww), .val (.int (2 : Int32)), .val (.int px), .val (.int py), .val (.int kx), .val (.ref im), .val (.ref pc), .val (.int ((((py * ww) + px) * (4 : Int32)) + kx)), .unset] [(.int (4 : Int32)), (.int (yy + py))])) _
      refine XS.imul Xo375.here hx rfl (hb hby at_652) rfl ?_
      show Steps p.tables e below (T373.setTop (mkF m 653 #[.val (.int sd), .val (.int xs), .val (.int ys), .val (.int ws0), .val (.int hs), .val (.long pk), .second, .val (.int sd), .val (.ref b1), .val (.ref b2), .val (.int xx), .val (.int yy), .val (.int ww), .val (.int (2 : Int32)), .val (.int px), .val (.int py), .val (.int kx), .val (.ref im), .val (.ref pc), .val (.int ((((py * ww) + px) * (4 : Int32)) + kx)), .unset] [(.int ((yy + py) * (4 : Int32)))])) _
      refine XS.iload Xo375.here hx rfl (hb hby at_653) rfl ?_
      show Steps p.tables e below (T373.setTop (mkF m 655 #[.val (.int sd), .val (.int xs), .val (.int ys), .val (.int ws0), .val (.int hs), .val (.long pk), .second, .val (.int sd), .val (.ref b1), .val (.ref b2), .val (.int xx), .val (.int yy), .val (.int ww), .val (.int (2 : Int32)), .val (.int px), .val (.int py), .val (.int kx), .val (.ref im), .val (.ref pc), .val (.int ((((py * ww) + px) * (4 : Int32)) + kx)), .unset] [(.int xx), (.int ((yy + py) * (4 : Int32)))])) _
      refine XS.iload Xo375.here hx rfl (hb hby at_655) rfl ?_
      show Steps p.tables e below (T373.setTop (mkF m 657 #[.val (.int sd), .val (.int xs), .val (.int ys), .val (.int ws0), .val (.int hs), .val (.long pk), .second, .val (.int sd), .val (.ref b1), .val (.ref b2), .val (.int xx), .val (.int yy), .val (.int ww), .val (.int (2 : Int32)), .val (.int px), .val (.int py), .val (.int kx), .val (.ref im), .val (.ref pc), .val (.int ((((py * ww) + px) * (4 : Int32)) + kx)), .unset] [(.int px), (.int xx), (.int ((yy + py) * (4 : Int32)))])) _
      refine XS.iadd Xo375.here hx rfl (hb hby at_657) rfl ?_
      show Steps p.tables e below (T373.setTop (mkF m 658 #[.val (.int sd), .val (.int xs), .val (.int ys), .val (.int ws0), .val (.int hs), .val (.long pk), .second, .val (.int sd), .val (.ref b1), .val (.ref b2), .val (.int xx), .val (.int yy), .val (.int ww), .val (.int (2 : Int32)), .val (.int px), .val (.int py), .val (.int kx), .val (.ref im), .val (.ref pc), .val (.int ((((py * ww) + px) * (4 : Int32)) + kx)), .unset] [(.int (xx + px)), (.int ((yy + py) * (4 : Int32)))])) _
      refine XS.iadd Xo375.here hx rfl (hb hby at_658) rfl ?_
      show Steps p.tables e below (T373.setTop (mkF m 659 #[.val (.int sd), .val (.int xs), .val (.int ys), .val (.int ws0), .val (.int hs), .val (.long pk), .second, .val (.int sd), .val (.ref b1), .val (.ref b2), .val (.int xx), .val (.int yy), .val (.int ww), .val (.int (2 : Int32)), .val (.int px), .val (.int py), .val (.int kx), .val (.ref im), .val (.ref pc), .val (.int ((((py * ww) + px) * (4 : Int32)) + kx)), .unset] [(.int (((yy + py) * (4 : Int32)) + (xx + px)))])) _
      refine XS.iconst Xo375.here hx rfl (hb hby at_659) ?_
      show Steps p.tables e below (T373.setTop (mkF m 660 #[.val (.int sd), .val (.int xs), .val (.int ys), .val (.int ws0), .val (.int hs), .val (.long pk), .second, .val (.int sd), .val (.ref b1), .val (.ref b2), .val (.int xx), .val (.int yy), .val (.int ww), .val (.int (2 : Int32)), .val (.int px), .val (.int py), .val (.int kx), .val (.ref im), .val (.ref pc), .val (.int ((((py * ww) + px) * (4 : Int32)) + kx)), .unset] [(.int (4 : Int32)), (.int (((yy + py) * (4 : Int32)) + (xx + px)))])) _
      refine XS.imul Xo375.here hx rfl (hb hby at_660) rfl ?_
      show Steps p.tables e below (T373.setTop (mkF m 661 #[.val (.int sd), .val (.int xs), .val (.int ys), .val (.int ws0), .val (.int hs), .val (.long pk), .second, .val (.int sd), .val (.ref b1), .val (.ref b2), .val (.int xx), .val (.int yy), .val (.int ww), .val (.int (2 : Int32)), .val (.int px), .val (.int py), .val (.int kx), .val (.ref im), .val (.ref pc), .val (.int ((((py * ww) + px) * (4 : Int32)) + kx)), .unset] [(.int ((((yy + py) * (4 : Int32)) + (xx + px)) * (4 : Int32)))])) _
      refine XS.iload Xo375.here hx rfl (hb hby at_661) rfl ?_
      show Steps p.tables e below (T373.setTop (mkF m 663 #[.val (.int sd), .val (.int xs), .val (.int ys), .val (.int ws0), .val (.int hs), .val (.long pk), .second, .val (.int sd), .val (.ref b1), .val (.ref b2), .val (.int xx), .val (.int yy), .val (.int ww), .val (.int (2 : Int32)), .val (.int px), .val (.int py), .val (.int kx), .val (.ref im), .val (.ref pc), .val (.int ((((py * ww) + px) * (4 : Int32)) + kx)), .unset] [(.int kx), (.int ((((yy + py) * (4 : Int32)) + (xx + px)) * (4 : Int32)))])) _
      refine XS.iadd Xo375.here hx rfl (hb hby at_663) rfl ?_
      show Steps p.tables e below (T373.setTop (mkF m 664 #[.val (.int sd), .val (.int xs), .val (.int ys), .val (.int ws0), .val (.int hs), .val (.long pk), .second, .val (.int sd), .val (.ref b1), .val (.ref b2), .val (.int xx), .val (.int yy), .val (.int ww), .val (.int (2 : Int32)), .val (.int px), .val (.int py), .val (.int kx), .val (.ref im), .val (.ref pc), .val (.int ((((py * ww) + px) * (4 : Int32)) + kx)), .unset] [(.int (((((yy + py) * (4 : Int32)) + (xx + px)) * (4 : Int32)) + kx))])) _
      refine XS.istore Xo375.here hx rfl (hb hby at_664) rfl (l' := #[.val (.int sd), .val (.int xs), .val (.int ys), .val (.int ws0), .val (.int hs), .val (.long pk), .second, .val (.int sd), .val (.ref b1), .val (.ref b2), .val (.int xx), .val (.int yy), .val (.int ww), .val (.int (2 : Int32)), .val (.int px), .val (.int py), .val (.int kx), .val (.ref im), .val (.ref pc), .val (.int ((((py * ww) + px) * (4 : Int32)) + kx)), .val (.int (((((yy + py) * (4 : Int32)) + (xx + px)) * (4 : Int32)) + kx))]) rfl ?_
      show Steps p.tables e below (T373.setTop (mkF m 666 #[.val (.int sd), .val (.int xs), .val (.int ys), .val (.int ws0), .val (.int hs), .val (.long pk), .second, .val (.int sd), .val (.ref b1), .val (.ref b2), .val (.int xx), .val (.int yy), .val (.int ww), .val (.int (2 : Int32)), .val (.int px), .val (.int py), .val (.int kx), .val (.ref im), .val (.ref pc), .val (.int ((((py * ww) + px) * (4 : Int32)) + kx)), .val (.int (((((yy + py) * (4 : Int32)) + (xx + px)) * (4 : Int32)) + kx))] [])) _
      refine XS.aload Xo375.here hx rfl (hb hby at_666) rfl rfl ?_
      show Steps p.tables e below (T373.setTop (mkF m 668 #[.val (.int sd), .val (.int xs), .val (.int ys), .val (.int ws0), .val (.int hs), .val (.long pk), .second, .val (.int sd), .val (.ref b1), .val (.ref b2), .val (.int xx), .val (.int yy), .val (.int ww), .val (.int (2 : Int32)), .val (.int px), .val (.int py), .val (.int kx), .val (.ref im), .val (.ref pc), .val (.int ((((py * ww) + px) * (4 : Int32)) + kx)), .val (.int (((((yy + py) * (4 : Int32)) + (xx + px)) * (4 : Int32)) + kx))] [(.ref pc)])) _
      refine XS.iload Xo375.here hx rfl (hb hby at_668) rfl ?_
      show Steps p.tables e below (T373.setTop (mkF m 670 #[.val (.int sd), .val (.int xs), .val (.int ys), .val (.int ws0), .val (.int hs), .val (.long pk), .second, .val (.int sd), .val (.ref b1), .val (.ref b2), .val (.int xx), .val (.int yy), .val (.int ww), .val (.int (2 : Int32)), .val (.int px), .val (.int py), .val (.int kx), .val (.ref im), .val (.ref pc), .val (.int ((((py * ww) + px) * (4 : Int32)) + kx)), .val (.int (((((yy + py) * (4 : Int32)) + (xx + px)) * (4 : Int32)) + kx))] [(.int ((((py * ww) + px) * (4 : Int32)) + kx)), (.ref pc)])) _
      exact k
    obtain ⟨cc381, Ar381, q1_381, Sz381, q3_381, Hs381, G381⟩ := id Vp373
    have hin381 : ¬ (((((py * ww) + px) * (4 : Int32)) + kx) < 0 ∨ cc381.slots.size ≤ (((((py * ww) + px) * (4 : Int32)) + kx) : Int32).toNatClampNeg) := inb_of Sz381 (own_lt gq1 hn1 gqm)
    have hat381 : cc381.slots[(((((py * ww) + px) * (4 : Int32)) + kx) : Int32).toNatClampNeg]? = some (.int ((sd + (Int32.ofNat (((yy.toNatClampNeg + py.toNatClampNeg) * 4 + xx.toNatClampNeg) * 4 + (4 * px.toNatClampNeg + kx.toNatClampNeg)))).toInt8.toInt32)) := Hs381.at hin381 (by rw [gqc]; exact hval)
    have pre383 : ∀ t, Steps p.tables e below (T373.setTop (mkF m 685 #[.val (.int sd), .val (.int xs), .val (.int ys), .val (.int ws0), .val (.int hs), .val (.long pk), .second, .val (.int sd), .val (.ref b1), .val (.ref b2), .val (.int xx), .val (.int yy), .val (.int ww), .val (.int (2 : Int32)), .val (.int px), .val (.int py), .val (.int kx), .val (.ref im), .val (.ref pc), .val (.int ((((py * ww) + px) * (4 : Int32)) + kx)), .val (.int (((((yy + py) * (4 : Int32)) + (xx + px)) * (4 : Int32)) + kx))] [(.int (1 : Int32))])) t → Steps p.tables e below (s₁.setTop (entryFrame m #[(.int sd), (.int xs), (.int ys), (.int ws0), (.int hs), (.long pk)] maxLocals)) t := by
      intro t k
      refine pre380 t ?_
      refine Xo375.baloadBytes hx (j := ((((py * ww) + px) * (4 : Int32)) + kx)) (v := (.int ((sd + (Int32.ofNat (((yy.toNatClampNeg + py.toNatClampNeg) * 4 + xx.toNatClampNeg) * 4 + (4 * px.toNatClampNeg + kx.toNatClampNeg)))).toInt8.toInt32))) (by rw [e373]; exact Ar381.1) (State.isArrayOf_alike hZ.alike Ar381.2.1) Ar381.2.2 hin381 hat381 (g := (mkF m 670 #[.val (.int sd), .val (.int xs), .val (.int ys), .val (.int ws0), .val (.int hs), .val (.long pk), .second, .val (.int sd), .val (.ref b1), .val (.ref b2), .val (.int xx), .val (.int yy), .val (.int ww), .val (.int (2 : Int32)), .val (.int px), .val (.int py), .val (.int kx), .val (.ref im), .val (.ref pc), .val (.int ((((py * ww) + px) * (4 : Int32)) + kx)), .val (.int (((((yy + py) * (4 : Int32)) + (xx + px)) * (4 : Int32)) + kx))] [(.int ((((py * ww) + px) * (4 : Int32)) + kx)), (.ref pc)])) rfl rfl (hb hby at_670) _ ?_
      show Steps p.tables e below (T373.setTop (mkF m 671 #[.val (.int sd), .val (.int xs), .val (.int ys), .val (.int ws0), .val (.int hs), .val (.long pk), .second, .val (.int sd), .val (.ref b1), .val (.ref b2), .val (.int xx), .val (.int yy), .val (.int ww), .val (.int (2 : Int32)), .val (.int px), .val (.int py), .val (.int kx), .val (.ref im), .val (.ref pc), .val (.int ((((py * ww) + px) * (4 : Int32)) + kx)), .val (.int (((((yy + py) * (4 : Int32)) + (xx + px)) * (4 : Int32)) + kx))] [(.int ((sd + (Int32.ofNat (((yy.toNatClampNeg + py.toNatClampNeg) * 4 + xx.toNatClampNeg) * 4 + (4 * px.toNatClampNeg + kx.toNatClampNeg)))).toInt8.toInt32))])) _
      refine XS.iload Xo375.here hx rfl (hb hby at_671) rfl ?_
      show Steps p.tables e below (T373.setTop (mkF m 673 #[.val (.int sd), .val (.int xs), .val (.int ys), .val (.int ws0), .val (.int hs), .val (.long pk), .second, .val (.int sd), .val (.ref b1), .val (.ref b2), .val (.int xx), .val (.int yy), .val (.int ww), .val (.int (2 : Int32)), .val (.int px), .val (.int py), .val (.int kx), .val (.ref im), .val (.ref pc), .val (.int ((((py * ww) + px) * (4 : Int32)) + kx)), .val (.int (((((yy + py) * (4 : Int32)) + (xx + px)) * (4 : Int32)) + kx))] [(.int sd), (.int ((sd + (Int32.ofNat (((yy.toNatClampNeg + py.toNatClampNeg) * 4 + xx.toNatClampNeg) * 4 + (4 * px.toNatClampNeg + kx.toNatClampNeg)))).toInt8.toInt32))])) _
      refine XS.iload Xo375.here hx rfl (hb hby at_673) rfl ?_
      show Steps p.tables e below (T373.setTop (mkF m 675 #[.val (.int sd), .val (.int xs), .val (.int ys), .val (.int ws0), .val (.int hs), .val (.long pk), .second, .val (.int sd), .val (.ref b1), .val (.ref b2), .val (.int xx), .val (.int yy), .val (.int ww), .val (.int (2 : Int32)), .val (.int px), .val (.int py), .val (.int kx), .val (.ref im), .val (.ref pc), .val (.int ((((py * ww) + px) * (4 : Int32)) + kx)), .val (.int (((((yy + py) * (4 : Int32)) + (xx + px)) * (4 : Int32)) + kx))] [(.int (((((yy + py) * (4 : Int32)) + (xx + px)) * (4 : Int32)) + kx)), (.int sd), (.int ((sd + (Int32.ofNat (((yy.toNatClampNeg + py.toNatClampNeg) * 4 + xx.toNatClampNeg) * 4 + (4 * px.toNatClampNeg + kx.toNatClampNeg)))).toInt8.toInt32))])) _
      refine XS.iadd Xo375.here hx rfl (hb hby at_675) rfl ?_
      show Steps p.tables e below (T373.setTop (mkF m 676 #[.val (.int sd), .val (.int xs), .val (.int ys), .val (.int ws0), .val (.int hs), .val (.long pk), .second, .val (.int sd), .val (.ref b1), .val (.ref b2), .val (.int xx), .val (.int yy), .val (.int ww), .val (.int (2 : Int32)), .val (.int px), .val (.int py), .val (.int kx), .val (.ref im), .val (.ref pc), .val (.int ((((py * ww) + px) * (4 : Int32)) + kx)), .val (.int (((((yy + py) * (4 : Int32)) + (xx + px)) * (4 : Int32)) + kx))] [(.int (sd + (((((yy + py) * (4 : Int32)) + (xx + px)) * (4 : Int32)) + kx))), (.int ((sd + (Int32.ofNat (((yy.toNatClampNeg + py.toNatClampNeg) * 4 + xx.toNatClampNeg) * 4 + (4 * px.toNatClampNeg + kx.toNatClampNeg)))).toInt8.toInt32))])) _
      refine XT.i2b Xo375.here hx rfl (hb hby at_676) rfl ?_
      show Steps p.tables e below (T373.setTop (mkF m 677 #[.val (.int sd), .val (.int xs), .val (.int ys), .val (.int ws0), .val (.int hs), .val (.long pk), .second, .val (.int sd), .val (.ref b1), .val (.ref b2), .val (.int xx), .val (.int yy), .val (.int ww), .val (.int (2 : Int32)), .val (.int px), .val (.int py), .val (.int kx), .val (.ref im), .val (.ref pc), .val (.int ((((py * ww) + px) * (4 : Int32)) + kx)), .val (.int (((((yy + py) * (4 : Int32)) + (xx + px)) * (4 : Int32)) + kx))] [(.int ((sd + (((((yy + py) * (4 : Int32)) + (xx + px)) * (4 : Int32)) + kx)).toInt8.toInt32)), (.int ((sd + (Int32.ofNat (((yy.toNatClampNeg + py.toNatClampNeg) * 4 + xx.toNatClampNeg) * 4 + (4 * px.toNatClampNeg + kx.toNatClampNeg)))).toInt8.toInt32))])) _
      refine XS.icmpNo Xo375.here hx rfl (hb hby at_677) rfl (XT.ii_ne_f (by rw [go1])) ?_
      show Steps p.tables e below (T373.setTop (mkF m 680 #[.val (.int sd), .val (.int xs), .val (.int ys), .val (.int ws0), .val (.int hs), .val (.long pk), .second, .val (.int sd), .val (.ref b1), .val (.ref b2), .val (.int xx), .val (.int yy), .val (.int ww), .val (.int (2 : Int32)), .val (.int px), .val (.int py), .val (.int kx), .val (.ref im), .val (.ref pc), .val (.int ((((py * ww) + px) * (4 : Int32)) + kx)), .val (.int (((((yy + py) * (4 : Int32)) + (xx + px)) * (4 : Int32)) + kx))] [])) _
      refine XS.iconst Xo375.here hx rfl (hb hby at_680) ?_
      show Steps p.tables e below (T373.setTop (mkF m 681 #[.val (.int sd), .val (.int xs), .val (.int ys), .val (.int ws0), .val (.int hs), .val (.long pk), .second, .val (.int sd), .val (.ref b1), .val (.ref b2), .val (.int xx), .val (.int yy), .val (.int ww), .val (.int (2 : Int32)), .val (.int px), .val (.int py), .val (.int kx), .val (.ref im), .val (.ref pc), .val (.int ((((py * ww) + px) * (4 : Int32)) + kx)), .val (.int (((((yy + py) * (4 : Int32)) + (xx + px)) * (4 : Int32)) + kx))] [(.int (1 : Int32))])) _
      refine XS.goto Xo375.here hx rfl (pc0 := 681) (pc' := 685) rfl (hb hby at_681) (by decide) (by decide) ?_
      show Steps p.tables e below (T373.setTop (mkF m 685 #[.val (.int sd), .val (.int xs), .val (.int ys), .val (.int ws0), .val (.int hs), .val (.long pk), .second, .val (.int sd), .val (.ref b1), .val (.ref b2), .val (.int xx), .val (.int yy), .val (.int ww), .val (.int (2 : Int32)), .val (.int px), .val (.int py), .val (.int kx), .val (.ref im), .val (.ref pc), .val (.int ((((py * ww) + px) * (4 : Int32)) + kx)), .val (.int (((((yy + py) * (4 : Int32)) + (xx + px)) * (4 : Int32)) + kx))] [(.int (1 : Int32))])) _
      exact k
    obtain ⟨fs, hr, hrun, hended, hW, hsame⟩ := Xo375.leave (v := some (.int (1 : Int32))) (fun h => by rw [Bd.returns] at h; cases h)
    refine ⟨_, _, pre383 _ ?_, hrun, hended, _, _, rfl, ?_, ⟨_, rfl⟩, hW, hsame.mono (by decide) (by decide)⟩
    · exact retOut Xo375 hx Bd.returns rfl (Or.inl ⟨rfl, by simp, _, rfl⟩) (hb hby at_685) hr
    · show Qlaw Z sd xs ys ws0 hs pk h0 n0 _ T373.heap _
      rw [e373]
      exact ⟨rfl, No375⟩
  · subst hq
    have hpy2 : py.toNatClampNeg < 3 := hpy1
    have hyh2 : yy.toNatClampNeg + 3 ≤ 3 := hyh
    obtain ⟨cq386, kq386, q386a, q386b, q386c⟩ := isOf hZ e303 E306_1
    obtain ⟨_, _, ⟨T386, L386, k386, n386⟩, -, X386, ⟨Lc386, hQ386, l386, y386, z386⟩, st386⟩ := Xo305.virtualBack hx (y := (⟨"com/example/facetwork/facetwork/image/RgbaImage", "crop", "(IIII)Lcom/example/facetwork/facetwork/image/RgbaImage;"⟩ : MethodName)) (z := (⟨"com/example/facetwork/facetwork/image/RgbaImage", "crop", "(IIII)Lcom/example/facetwork/facetwork/image/RgbaImage;"⟩ : MethodName)) hown (mvT hZ (hw _ (List.mem_of_getElem? (i := 29) rfl))) (mvT hZ (hw _ (List.mem_of_getElem? (i := 30) rfl))) (notFace_of_selects (args := #[]) (mvT hZ (hw _ (List.mem_of_getElem? (i := 32) rfl)))) (mvT hZ (hw _ (List.mem_of_getElem? (i := 32) rfl))) (mvT hZ (hw _ (List.mem_of_getElem? (i := 31) rfl))) (by decide) (backOf (W := 0) (rm3h3 l Z a0 hw [] b2 xx yy ww pa cA3 (own_src sd) h303 n0 Z306 Fa303 Fb303 Fc303 Vq303 hx0 (by omega) hy0 (by omega) hw0 hwx hhy) hZ (hw _ (List.mem_of_getElem? (i := 33) rfl)) (hw _ (List.mem_of_getElem? (i := 3) rfl)) (by decide) (by decide)) q386a q386c (g := (mkF m 582 #[.val (.int sd), .val (.int xs), .val (.int ys), .val (.int ws0), .val (.int hs), .val (.long pk), .second, .val (.int sd), .val (.ref b1), .val (.ref b2), .val (.int xx), .val (.int yy), .val (.int ww), .val (.int (3 : Int32)), .val (.int px), .val (.int py), .val (.int kx), .unset, .unset, .unset, .unset] [(.int (3 : Int32)), (.int ww), (.int yy), (.int xx), (.ref b2)])) rfl (by rw [hml]; rfl) (Steps.refl _) (argsL := [(.int xx), (.int yy), (.int ww), (.int (3 : Int32))]) (rest := []) (lenOf pd_crop rfl) rfl (by show 2 * 0 + _ ≤ _; exact Nat.le_of_eq rfl) (hb hby at_582) (fun _ _ => ⟨rfl, e303, (by decide : 3 + 3 ≤ _), (by decide : 99 + 99 ≤ _)⟩)
    dsimp only [Pt.U, Pt.locs, Pt.cells, Pt.slots] at X386 l386 y386 z386 st386 hQ386
    subst l386 y386 z386
    obtain ⟨im, pb, kb, ud, rfl, Nq386, Kq386, Eq386, Fa386, Fb386, Fc386, Ep386, Vp386, Rq386⟩ := hQ386
    have N386 := Fr.app No305 Nq386
    have pre387 : ∀ t, Steps p.tables e below (T386.setTop (mkF m 585 #[.val (.int sd), .val (.int xs), .val (.int ys), .val (.int ws0), .val (.int hs), .val (.long pk), .second, .val (.int sd), .val (.ref b1), .val (.ref b2), .val (.int xx), .val (.int yy), .val (.int ww), .val (.int (3 : Int32)), .val (.int px), .val (.int py), .val (.int kx), .unset, .unset, .unset, .unset] [(.ref im)])) t → Steps p.tables e below (s₁.setTop (entryFrame m #[(.int sd), (.int xs), (.int ys), (.int ws0), (.int hs), (.long pk)] maxLocals)) t := fun t k => pre322 t (st386.trans k)
    obtain ⟨Lo388, Xo388, No388⟩ : ∃ L, Stand p l e room_1 s m #[(.int sd), (.int xs), (.int ys), (.int ws0), (.int hs), (.long pk)] below meth c T386 L 6 198 ∧ Fr n0 L := ⟨_, X386, N386⟩
    obtain ⟨h386, e386⟩ : ∃ z, T386.heap = z := ⟨_, rfl⟩
    rw [e386] at Kq386 Eq386 Fa386 Fb386 Fc386 Ep386 Vp386
    have Z389 : n0 ≤ h386.size := (Nat.le_trans Z306 Kq386.1)
    have pre391 : ∀ t, Steps p.tables e below (T386.setTop (mkF m 589 #[.val (.int sd), .val (.int xs), .val (.int ys), .val (.int ws0), .val (.int hs), .val (.long pk), .second, .val (.int sd), .val (.ref b1), .val (.ref b2), .val (.int xx), .val (.int yy), .val (.int ww), .val (.int (3 : Int32)), .val (.int px), .val (.int py), .val (.int kx), .val (.ref im), .unset, .unset, .unset] [(.ref im)])) t → Steps p.tables e below (s₁.setTop (entryFrame m #[(.int sd), (.int xs), (.int ys), (.int ws0), (.int hs), (.long pk)] maxLocals)) t := by
      intro t k
      refine pre387 t ?_
      refine XS.astore Xo388.here hx rfl (hb hby at_585) rfl rfl (l' := #[.val (.int sd), .val (.int xs), .val (.int ys), .val (.int ws0), .val (.int hs), .val (.long pk), .second, .val (.int sd), .val (.ref b1), .val (.ref b2), .val (.int xx), .val (.int yy), .val (.int ww), .val (.int (3 : Int32)), .val (.int px), .val (.int py), .val (.int kx), .val (.ref im), .unset, .unset, .unset]) rfl ?_
      show Steps p.tables e below (T386.setTop (mkF m 587 #[.val (.int sd), .val (.int xs), .val (.int ys), .val (.int ws0), .val (.int hs), .val (.long pk), .second, .val (.int sd), .val (.ref b1), .val (.ref b2), .val (.int xx), .val (.int yy), .val (.int ww), .val (.int (3 : Int32)), .val (.int px), .val (.int py), .val (.int kx), .val (.ref im), .unset, .unset, .unset] [])) _
      refine XS.aload Xo388.here hx rfl (hb hby at_587) rfl rfl ?_
      show Steps p.tables e below (T386.setTop (mkF m 589 #[.val (.int sd), .val (.int xs), .val (.int ys), .val (.int ws0), .val (.int hs), .val (.long pk), .second, .val (.int sd), .val (.ref b1), .val (.ref b2), .val (.int xx), .val (.int yy), .val (.int ww), .val (.int (3 : Int32)), .val (.int px), .val (.int py), .val (.int kx), .val (.ref im), .unset, .unset, .unset] [(.ref im)])) _
      exact k
    obtain ⟨cq392, kq392, q392a, q392b, q392c⟩ := isOf hZ e386 Eq386
    obtain ⟨_, _, ⟨T392, L392, k392, n392⟩, -, X392, ⟨Lc392, hQ392, l392, y392, z392⟩, st392⟩ := Xo388.virtualBack hx (y := (⟨"com/example/facetwork/facetwork/image/RgbaImage", "width", "()I"⟩ : MethodName)) (z := (⟨"com/example/facetwork/facetwork/image/RgbaImage", "width", "()I"⟩ : MethodName)) hown (mvT hZ (hw _ (List.mem_of_getElem? (i := 40) rfl))) (mvT hZ (hw _ (List.mem_of_getElem? (i := 41) rfl))) (notFace_of_selects (args := #[]) (mvT hZ (hw _ (List.mem_of_getElem? (i := 43) rfl)))) (mvT hZ (hw _ (List.mem_of_getElem? (i := 43) rfl))) (mvT hZ (hw _ (List.mem_of_getElem? (i := 42) rfl))) (by decide) (backOf (W := 0) (rm4 l Z a0 hw [] im ww h386 n0 Z389 Fa386) hZ (hw _ (List.mem_of_getElem? (i := 44) rfl)) (hw _ (List.mem_of_getElem? (i := 3) rfl)) (by decide) (by decide)) q392a q392c (g := (mkF m 589 #[.val (.int sd), .val (.int xs), .val (.int ys), .val (.int ws0), .val (.int hs), .val (.long pk), .second, .val (.int sd), .val (.ref b1), .val (.ref b2), .val (.int xx), .val (.int yy), .val (.int ww), .val (.int (3 : Int32)), .val (.int px), .val (.int py), .val (.int kx), .val (.ref im), .unset, .unset, .unset] [(.ref im)])) rfl (by rw [hml]; rfl) (Steps.refl _) (argsL := []) (rest := []) (lenOf pd_i rfl) rfl (by show 2 * 0 + _ ≤ _; exact Nat.le_of_eq rfl) (hb hby at_589) (fun _ _ => ⟨rfl, e386, (by decide : 6 + 0 ≤ _), (by decide : 198 + 0 ≤ _)⟩)
    dsimp only [Pt.U, Pt.locs, Pt.cells, Pt.slots] at X392 l392 y392 z392 st392 hQ392
    subst l392 y392 z392
    obtain ⟨rfl, Nq392, heq392⟩ := hQ392
    have N392 := Fr.app No388 Nq392
    have pre393 : ∀ t, Steps p.tables e below (T392.setTop (mkF m 592 #[.val (.int sd), .val (.int xs), .val (.int ys), .val (.int ws0), .val (.int hs), .val (.long pk), .second, .val (.int sd), .val (.ref b1), .val (.ref b2), .val (.int xx), .val (.int yy), .val (.int ww), .val (.int (3 : Int32)), .val (.int px), .val (.int py), .val (.int kx), .val (.ref im), .unset, .unset, .unset] [(.int ww)])) t → Steps p.tables e below (s₁.setTop (entryFrame m #[(.int sd), (.int xs), (.int ys), (.int ws0), (.int hs), (.long pk)] maxLocals)) t := fun t k => pre391 t (st392.trans k)
    obtain ⟨Lo394, Xo394, No394⟩ : ∃ L, Stand p l e room_1 s m #[(.int sd), (.int xs), (.int ys), (.int ws0), (.int hs), (.long pk)] below meth c T392 L 6 198 ∧ Fr n0 L := ⟨_, X392, N392⟩
    have pre396 : ∀ t, Steps p.tables e below (T392.setTop (mkF m 599 #[.val (.int sd), .val (.int xs), .val (.int ys), .val (.int ws0), .val (.int hs), .val (.long pk), .second, .val (.int sd), .val (.ref b1), .val (.ref b2), .val (.int xx), .val (.int yy), .val (.int ww), .val (.int (3 : Int32)), .val (.int px), .val (.int py), .val (.int kx), .val (.ref im), .unset, .unset, .unset] [(.ref im)])) t → Steps p.tables e below (s₁.setTop (entryFrame m #[(.int sd), (.int xs), (.int ys), (.int ws0), (.int hs), (.long pk)] maxLocals)) t := by
      intro t k
      refine pre393 t ?_
      refine XS.iload Xo394.here hx rfl (hb hby at_592) rfl ?_
      show Steps p.tables e below (T392.setTop (mkF m 594 #[.val (.int sd), .val (.int xs), .val (.int ys), .val (.int ws0), .val (.int hs), .val (.long pk), .second, .val (.int sd), .val (.ref b1), .val (.ref b2), .val (.int xx), .val (.int yy), .val (.int ww), .val (.int (3 : Int32)), .val (.int px), .val (.int py), .val (.int kx), .val (.ref im), .unset, .unset, .unset] [(.int ww), (.int ww)])) _
      refine XS.icmpNo Xo394.here hx rfl (hb hby at_594) rfl (XT.ii_ne_f rfl) ?_
      show Steps p.tables e below (T392.setTop (mkF m 597 #[.val (.int sd), .val (.int xs), .val (.int ys), .val (.int ws0), .val (.int hs), .val (.long pk), .second, .val (.int sd), .val (.ref b1), .val (.ref b2), .val (.int xx), .val (.int yy), .val (.int ww), .val (.int (3 : Int32)), .val (.int px), .val (.int py), .val (.int kx), .val (.ref im), .unset, .unset, .unset] [])) _
      refine XS.aload Xo394.here hx rfl (hb hby at_597) rfl rfl ?_
      show Steps p.tables e below (T392.setTop (mkF m 599 #[.val (.int sd), .val (.int xs), .val (.int ys), .val (.int ws0), .val (.int hs), .val (.long pk), .second, .val (.int sd), .val (.ref b1), .val (.ref b2), .val (.int xx), .val (.int yy), .val (.int ww), .val (.int (3 : Int32)), .val (.int px), .val (.int py), .val (.int kx), .val (.ref im), .unset, .unset, .unset] [(.ref im)])) _
      exact k
    obtain ⟨cq398, kq398, q398a, q398b, q398c⟩ := isOf hZ heq392 Eq386
    obtain ⟨_, _, ⟨T398, L398, k398, n398⟩, -, X398, ⟨Lc398, hQ398, l398, y398, z398⟩, st398⟩ := Xo394.virtualBack hx (y := (⟨"com/example/facetwork/facetwork/image/RgbaImage", "height", "()I"⟩ : MethodName)) (z := (⟨"com/example/facetwork/facetwork/image/RgbaImage", "height", "()I"⟩ : MethodName)) hown (mvT hZ (hw _ (List.mem_of_getElem? (i := 45) rfl))) (mvT hZ (hw _ (List.mem_of_getElem? (i := 46) rfl))) (notFace_of_selects (args := #[]) (mvT hZ (hw _ (List.mem_of_getElem? (i := 48) rfl)))) (mvT hZ (hw _ (List.mem_of_getElem? (i := 48) rfl))) (mvT hZ (hw _ (List.mem_of_getElem? (i := 47) rfl))) (by decide) (backOf (W := 0) (rm5 l Z a0 hw [] im (3 : Int32) h386 n0 Z389 Fb386) hZ (hw _ (List.mem_of_getElem? (i := 49) rfl)) (hw _ (List.mem_of_getElem? (i := 3) rfl)) (by decide) (by decide)) q398a q398c (g := (mkF m 599 #[.val (.int sd), .val (.int xs), .val (.int ys), .val (.int ws0), .val (.int hs), .val (.long pk), .second, .val (.int sd), .val (.ref b1), .val (.ref b2), .val (.int xx), .val (.int yy), .val (.int ww), .val (.int (3 : Int32)), .val (.int px), .val (.int py), .val (.int kx), .val (.ref im), .unset, .unset, .unset] [(.ref im)])) rfl (by rw [hml]; rfl) (Steps.refl _) (argsL := []) (rest := []) (lenOf pd_i rfl) rfl (by show 2 * 0 + _ ≤ _; exact Nat.le_of_eq rfl) (hb hby at_599) (fun _ _ => ⟨rfl, heq392, (by decide : 6 + 0 ≤ _), (by decide : 198 + 0 ≤ _)⟩)
    dsimp only [Pt.U, Pt.locs, Pt.cells, Pt.slots] at X398 l398 y398 z398 st398 hQ398
    subst l398 y398 z398
    obtain ⟨rfl, Nq398, heq398⟩ := hQ398
    have N398 := Fr.app No394 Nq398
    have pre399 : ∀ t, Steps p.tables e below (T398.setTop (mkF m 602 #[.val (.int sd), .val (.int xs), .val (.int ys), .val (.int ws0), .val (.int hs), .val (.long pk), .second, .val (.int sd), .val (.ref b1), .val (.ref b2), .val (.int xx), .val (.int yy), .val (.int ww), .val (.int (3 : Int32)), .val (.int px), .val (.int py), .val (.int kx), .val (.ref im), .unset, .unset, .unset] [(.int (3 : Int32))])) t → Steps p.tables e below (s₁.setTop (entryFrame m #[(.int sd), (.int xs), (.int ys), (.int ws0), (.int hs), (.long pk)] maxLocals)) t := fun t k => pre396 t (st398.trans k)
    obtain ⟨Lo400, Xo400, No400⟩ : ∃ L, Stand p l e room_1 s m #[(.int sd), (.int xs), (.int ys), (.int ws0), (.int hs), (.long pk)] below meth c T398 L 6 198 ∧ Fr n0 L := ⟨_, X398, N398⟩
    have pre402 : ∀ t, Steps p.tables e below (T398.setTop (mkF m 611 #[.val (.int sd), .val (.int xs), .val (.int ys), .val (.int ws0), .val (.int hs), .val (.long pk), .second, .val (.int sd), .val (.ref b1), .val (.ref b2), .val (.int xx), .val (.int yy), .val (.int ww), .val (.int (3 : Int32)), .val (.int px), .val (.int py), .val (.int kx), .val (.ref im), .unset, .unset, .unset] [(.ref im)])) t → Steps p.tables e below (s₁.setTop (entryFrame m #[(.int sd), (.int xs), (.int ys), (.int ws0), (.int hs), (.long pk)] maxLocals)) t := by
      intro t k
      refine pre399 t ?_
      refine XS.iload Xo400.here hx rfl (hb hby at_602) rfl ?_
      show Steps p.tables e below (T398.setTop (mkF m 604 #[.val (.int sd), .val (.int xs), .val (.int ys), .val (.int ws0), .val (.int hs), .val (.long pk), .second, .val (.int sd), .val (.ref b1), .val (.ref b2), .val (.int xx), .val (.int yy), .val (.int ww), .val (.int (3 : Int32)), .val (.int px), .val (.int py), .val (.int kx), .val (.ref im), .unset, .unset, .unset] [(.int (3 : Int32)), (.int (3 : Int32))])) _
      refine XS.icmpYes Xo400.here hx rfl (pc0 := 604) (pc' := 609) rfl (hb hby at_604) rfl (XT.ii_eq_t rfl) (by decide) (by decide) ?_
      show Steps p.tables e below (T398.setTop (mkF m 609 #[.val (.int sd), .val (.int xs), .val (.int ys), .val (.int ws0), .val (.int hs), .val (.long pk), .second, .val (.int sd), .val (.ref b1), .val (.ref b2), .val (.int xx), .val (.int yy), .val (.int ww), .val (.int (3 : Int32)), .val (.int px), .val (.int py), .val (.int kx), .val (.ref im), .unset, .unset, .unset] [])) _
      refine XS.aload Xo400.here hx rfl (hb hby at_609) rfl rfl ?_
      show Steps p.tables e below (T398.setTop (mkF m 611 #[.val (.int sd), .val (.int xs), .val (.int ys), .val (.int ws0), .val (.int hs), .val (.long pk), .second, .val (.int sd), .val (.ref b1), .val (.ref b2), .val (.int xx), .val (.int yy), .val (.int ww), .val (.int (3 : Int32)), .val (.int px), .val (.int py), .val (.int kx), .val (.ref im), .unset, .unset, .unset] [(.ref im)])) _
      exact k
    obtain ⟨hn1, hn2⟩ := own_n3 hw1 hw4
    have hnc := own_clamp hn1
    obtain ⟨cq404, kq404, q404a, q404b, q404c⟩ := isOf hZ heq398 Eq386
    obtain ⟨_, _, ⟨T404, L404, k404, n404⟩, -, X404, ⟨Lc404, hQ404, l404, y404, z404⟩, st404⟩ := Xo400.virtualBack hx (y := (⟨"com/example/facetwork/facetwork/image/RgbaImage", "pixels", "()[B"⟩ : MethodName)) (z := (⟨"com/example/facetwork/facetwork/image/RgbaImage", "pixels", "()[B"⟩ : MethodName)) hown (mvT hZ (hw _ (List.mem_of_getElem? (i := 50) rfl))) (mvT hZ (hw _ (List.mem_of_getElem? (i := 51) rfl))) (notFace_of_selects (args := #[]) (mvT hZ (hw _ (List.mem_of_getElem? (i := 53) rfl)))) (mvT hZ (hw _ (List.mem_of_getElem? (i := 53) rfl))) (mvT hZ (hw _ (List.mem_of_getElem? (i := 52) rfl))) (by decide) (backOf (W := 0) (rm6 l Z a0 hw [] im pb kb ((ww * (3 : Int32)) * (4 : Int32)) ud h386 n0 Z389 Fc386 Ep386 Vp386 (by rw [hnc]; omega)) hZ (hw _ (List.mem_of_getElem? (i := 54) rfl)) (hw _ (List.mem_of_getElem? (i := 3) rfl)) (by decide) (by decide)) q404a q404c (g := (mkF m 611 #[.val (.int sd), .val (.int xs), .val (.int ys), .val (.int ws0), .val (.int hs), .val (.long pk), .second, .val (.int sd), .val (.ref b1), .val (.ref b2), .val (.int xx), .val (.int yy), .val (.int ww), .val (.int (3 : Int32)), .val (.int px), .val (.int py), .val (.int kx), .val (.ref im), .unset, .unset, .unset] [(.ref im)])) rfl (by rw [hml]; rfl) (Steps.refl _) (argsL := []) (rest := []) (lenOf pd_pix rfl) rfl (by show 2 * 0 + _ ≤ _; exact Nat.le_of_eq rfl) (hb hby at_611) (fun _ _ => ⟨rfl, heq398, (by decide : 6 + 1 ≤ _), (by decide : 198 + 48 ≤ _)⟩)
    dsimp only [Pt.U, Pt.locs, Pt.cells, Pt.slots] at X404 l404 y404 z404 st404 hQ404
    subst l404 y404 z404
    obtain ⟨pc, rfl, Nq404, Kq404, Vp404⟩ := hQ404
    have N404 := Fr.app No400 Nq404
    have pre405 : ∀ t, Steps p.tables e below (T404.setTop (mkF m 614 #[.val (.int sd), .val (.int xs), .val (.int ys), .val (.int ws0), .val (.int hs), .val (.long pk), .second, .val (.int sd), .val (.ref b1), .val (.ref b2), .val (.int xx), .val (.int yy), .val (.int ww), .val (.int (3 : Int32)), .val (.int px), .val (.int py), .val (.int kx), .val (.ref im), .unset, .unset, .unset] [(.ref pc)])) t → Steps p.tables e below (s₁.setTop (entryFrame m #[(.int sd), (.int xs), (.int ys), (.int ws0), (.int hs), (.long pk)] maxLocals)) t := fun t k => pre402 t (st404.trans k)
    obtain ⟨Lo406, Xo406, No406⟩ : ∃ L, Stand p l e room_1 s m #[(.int sd), (.int xs), (.int ys), (.int ws0), (.int hs), (.long pk)] below meth c T404 L 7 246 ∧ Fr n0 L := ⟨_, X404, N404⟩
    obtain ⟨h404, e404⟩ : ∃ z, T404.heap = z := ⟨_, rfl⟩
    rw [e404] at Kq404 Vp404
    have Z407 : n0 ≤ h404.size := (Nat.le_trans Z389 Kq404.1)
    have pre408 : ∀ t, Steps p.tables e below (T404.setTop (mkF m 618 #[.val (.int sd), .val (.int xs), .val (.int ys), .val (.int ws0), .val (.int hs), .val (.long pk), .second, .val (.int sd), .val (.ref b1), .val (.ref b2), .val (.int xx), .val (.int yy), .val (.int ww), .val (.int (3 : Int32)), .val (.int px), .val (.int py), .val (.int kx), .val (.ref im), .val (.ref pc), .unset, .unset] [(.ref pc)])) t → Steps p.tables e below (s₁.setTop (entryFrame m #[(.int sd), (.int xs), (.int ys), (.int ws0), (.int hs), (.long pk)] maxLocals)) t := by
      intro t k
      refine pre405 t ?_
      refine XS.astore Xo406.here hx rfl (hb hby at_614) rfl rfl (l' := #[.val (.int sd), .val (.int xs), .val (.int ys), .val (.int ws0), .val (.int hs), .val (.long pk), .second, .val (.int sd), .val (.ref b1), .val (.ref b2), .val (.int xx), .val (.int yy), .val (.int ww), .val (.int (3 : Int32)), .val (.int px), .val (.int py), .val (.int kx), .val (.ref im), .val (.ref pc), .unset, .unset]) rfl ?_
      show Steps p.tables e below (T404.setTop (mkF m 616 #[.val (.int sd), .val (.int xs), .val (.int ys), .val (.int ws0), .val (.int hs), .val (.long pk), .second, .val (.int sd), .val (.ref b1), .val (.ref b2), .val (.int xx), .val (.int yy), .val (.int ww), .val (.int (3 : Int32)), .val (.int px), .val (.int py), .val (.int kx), .val (.ref im), .val (.ref pc), .unset, .unset] [])) _
      refine XS.aload Xo406.here hx rfl (hb hby at_616) rfl rfl ?_
      show Steps p.tables e below (T404.setTop (mkF m 618 #[.val (.int sd), .val (.int xs), .val (.int ys), .val (.int ws0), .val (.int hs), .val (.long pk), .second, .val (.int sd), .val (.ref b1), .val (.ref b2), .val (.int xx), .val (.int yy), .val (.int ww), .val (.int (3 : Int32)), .val (.int px), .val (.int py), .val (.int kx), .val (.ref im), .val (.ref pc), .unset, .unset] [(.ref pc)])) _
      exact k
    obtain ⟨cc409, Ar409, q1_409, Sz409, q3_409, Hs409, G409⟩ := id Vp404
    obtain ⟨gq1, gq2⟩ := own_q hw1 hw4 hpy0 hpy2 (by decide) hpx0 hpx1 hk0 hk4
    obtain ⟨go1, go2⟩ := own_o hy0 hpy0 hx0 hpx0 hk0 (by omega) (by omega) hk4
    have gqc := own_clamp gq1
    have hval := (Rq386.2 _ hpy2 _ gq2).trans (own_at sd _ go2)
    have gqm : py.toNatClampNeg * (4 * ww.toNatClampNeg) + (4 * px.toNatClampNeg + kx.toNatClampNeg) < 3 * (4 * ww.toNatClampNeg) := by
      rcases (by omega : py.toNatClampNeg = 0 ∨ py.toNatClampNeg = 1 ∨ py.toNatClampNeg = 2) with q | q | q <;> rw [q] <;> omega
    have pre411 : ∀ t, Steps p.tables e below (T404.setTop (mkF m 670 #[.val (.int sd), .val (.int xs), .val (.int ys), .val (.int ws0), .val (.int hs), .val (.long pk), .second, .val (.int sd), .val (.ref b1), .val (.ref b2), .val (.int xx), .val (.int yy), .val (.int ww), .val (.int (3 : Int32)), .val (.int px), .val (.int py), .val (.int kx), .val (.ref im), .val (.ref pc), .val (.int ((((py * ww) + px) * (4 : Int32)) + kx)), .val (.int (((((yy + py) * (4 : Int32)) + (xx + px)) * (4 : Int32)) + kx))] [(.int ((((py * ww) + px) * (4 : Int32)) + kx)), (.ref pc)])) t → Steps p.tables e below (s₁.setTop (entryFrame m #[(.int sd), (.int xs), (.int ys), (.int ws0), (.int hs), (.long pk)] maxLocals)) t := by
      intro t k
      refine pre408 t ?_
      refine Xo406.arraylength hx (by rw [e404]; exact Ar409.1) (State.isArrayOf_alike hZ.alike Ar409.2.1) (g := (mkF m 618 #[.val (.int sd), .val (.int xs), .val (.int ys), .val (.int ws0), .val (.int hs), .val (.long pk), .second, .val (.int sd), .val (.ref b1), .val (.ref b2), .val (.int xx), .val (.int yy), .val (.int ww), .val (.int (3 : Int32)), .val (.int px), .val (.int py), .val (.int kx), .val (.ref im), .val (.ref pc), .unset, .unset] [(.ref pc)])) rfl rfl (hb hby at_618) _ ?_
      rw [len_of Sz409 q3_409]
      show Steps p.tables e below (T404.setTop (mkF m 619 #[.val (.int sd), .val (.int xs), .val (.int ys), .val (.int ws0), .val (.int hs), .val (.long pk), .second, .val (.int sd), .val (.ref b1), .val (.ref b2), .val (.int xx), .val (.int yy), .val (.int ww), .val (.int (3 : Int32)), .val (.int px), .val (.int py), .val (.int kx), .val (.ref im), .val (.ref pc), .unset, .unset] [(.int ((ww * (3 : Int32)) * (4 : Int32)))])) _
      refine XS.iload Xo406.here hx rfl (hb hby at_619) rfl ?_
      show Steps p.tables e below (T404.setTop (mkF m 621 #[.val (.int sd), .val (.int xs), .val (.int ys), .val (.int ws0), .val (.int hs), .val (.long pk), .second, .val (.int sd), .val (.ref b1), .val (.ref b2), .val (.int xx), .val (.int yy), .val (.int ww), .val (.int (3 : Int32)), .val (.int px), .val (.int py), .val (.int kx), .val (.ref im), .val (.ref pc), .unset, .unset] [(.int ww), (.int ((ww * (3 : Int32)) * (4 : Int32)))])) _
      refine XS.iload Xo406.here hx rfl (hb hby at_621) rfl ?_
      show Steps p.tables e below (T404.setTop (mkF m 623 #[.val (.int sd), .val (.int xs), .val (.int ys), .val (.int ws0), .val (.int hs), .val (.long pk), .second, .val (.int sd), .val (.ref b1), .val (.ref b2), .val (.int xx), .val (.int yy), .val (.int ww), .val (.int (3 : Int32)), .val (.int px), .val (.int py), .val (.int kx), .val (.ref im), .val (.ref pc), .unset, .unset] [(.int (3 : Int32)), (.int ww), (.int ((ww * (3 : Int32)) * (4 : Int32)))])) _
      refine XS.imul Xo406.here hx rfl (hb hby at_623) rfl ?_
      show Steps p.tables e below (T404.setTop (mkF m 624 #[.val (.int sd), .val (.int xs), .val (.int ys), .val (.int ws0), .val (.int hs), .val (.long pk), .second, .val (.int sd), .val (.ref b1), .val (.ref b2), .val (.int xx), .val (.int yy), .val (.int ww), .val (.int (3 : Int32)), .val (.int px), .val (.int py), .val (.int kx), .val (.ref im), .val (.ref pc), .unset, .unset] [(.int (ww * (3 : Int32))), (.int ((ww * (3 : Int32)) * (4 : Int32)))])) _
      refine XS.iconst Xo406.here hx rfl (hb hby at_624) ?_
      show Steps p.tables e below (T404.setTop (mkF m 625 #[.val (.int sd), .val (.int xs), .val (.int ys), .val (.int ws0), .val (.int hs), .val (.long pk), .second, .val (.int sd), .val (.ref b1), .val (.ref b2), .val (.int xx), .val (.int yy), .val (.int ww), .val (.int (3 : Int32)), .val (.int px), .val (.int py), .val (.int kx), .val (.ref im), .val (.ref pc), .unset, .unset] [(.int (4 : Int32)), (.int (ww * (3 : Int32))), (.int ((ww * (3 : Int32)) * (4 : Int32)))])) _
      refine XS.imul Xo406.here hx rfl (hb hby at_625) rfl ?_
      show Steps p.tables e below (T404.setTop (mkF m 626 #[.val (.int sd), .val (.int xs), .val (.int ys), .val (.int ws0), .val (.int hs), .val (.long pk), .second, .val (.int sd), .val (.ref b1), .val (.ref b2), .val (.int xx), .val (.int yy), .val (.int ww), .val (.int (3 : Int32)), .val (.int px), .val (.int py), .val (.int kx), .val (.ref im), .val (.ref pc), .unset, .unset] [(.int ((ww * (3 : Int32)) * (4 : Int32))), (.int ((ww * (3 : Int32)) * (4 : Int32)))])) _
      refine XS.icmpYes Xo406.here hx rfl (pc0 := 626) (pc' := 631) rfl (hb hby at_626) rfl (XT.ii_eq_t rfl) (by decide) (by decide) ?_
      show Steps p.tables e below (T404.setTop (mkF m 631 #[.val (.int sd), .val (.int xs), .val (.int ys), .val (.int ws0), .val (.int hs), .val (.long pk), .second, .val (.int sd), .val (.ref b1), .val (.ref b2), .val (.int xx), .val (.int yy), .val (.int ww), .val (.int (3 : Int32)), .val (.int px), .val (.int py), .val (.int kx), .val (.ref im), .val (.ref pc), .unset, .unset] [])) _
      refine XS.iload Xo406.here hx rfl (hb hby at_631) rfl ?_
      show Steps p.tables e below (T404.setTop (mkF m 633 #[.val (.int sd), .val (.int xs), .val (.int ys), .val (.int ws0), .val (.int hs), .val (.long pk), .second, .val (.int sd), .val (.ref b1), .val (.ref b2), .val (.int xx), .val (.int yy), .val (.int ww), .val (.int (3 : Int32)), .val (.int px), .val (.int py), .val (.int kx), .val (.ref im), .val (.ref pc), .unset, .unset] [(.int py)])) _
      refine XS.iload Xo406.here hx rfl (hb hby at_633) rfl ?_
      show Steps p.tables e below (T404.setTop (mkF m 635 #[.val (.int sd), .val (.int xs), .val (.int ys), .val (.int ws0), .val (.int hs), .val (.long pk), .second, .val (.int sd), .val (.ref b1), .val (.ref b2), .val (.int xx), .val (.int yy), .val (.int ww), .val (.int (3 : Int32)), .val (.int px), .val (.int py), .val (.int kx), .val (.ref im), .val (.ref pc), .unset, .unset] [(.int ww), (.int py)])) _
      refine XS.imul Xo406.here hx rfl (hb hby at_635) rfl ?_
      show Steps p.tables e below (T404.setTop (mkF m 636 #[.val (.int sd), .val (.int xs), .val (.int ys), .val (.int ws0), .val (.int hs), .val (.long pk), .second, .val (.int sd), .val (.ref b1), .val (.ref b2), .val (.int xx), .val (.int yy), .val (.int ww), .val (.int (3 : Int32)), .val (.int px), .val (.int py), .val (.int kx), .val (.ref im), .val (.ref pc), .unset, .unset] [(.int (py * ww))])) _
      refine XS.iload Xo406.here hx rfl (hb hby at_636) rfl ?_
      show Steps p.tables e below (T404.setTop (mkF m 638 #[.val (.int sd), .val (.int xs), .val (.int ys), .val (.int ws0), .val (.int hs), .val (.long pk), .second, .val (.int sd), .val (.ref b1), .val (.ref b2), .val (.int xx), .val (.int yy), .val (.int ww), .val (.int (3 : Int32)), .val (.int px), .val (.int py), .val (.int kx), .val (.ref im), .val (.ref pc), .unset, .unset] [(.int px), (.int (py * ww))])) _
      refine XS.iadd Xo406.here hx rfl (hb hby at_638) rfl ?_
      show Steps p.tables e below (T404.setTop (mkF m 639 #[.val (.int sd), .val (.int xs), .val (.int ys), .val (.int ws0), .val (.int hs), .val (.long pk), .second, .val (.int sd), .val (.ref b1), .val (.ref b2), .val (.int xx), .val (.int yy), .val (.int ww), .val (.int (3 : Int32)), .val (.int px), .val (.int py), .val (.int kx), .val (.ref im), .val (.ref pc), .unset, .unset] [(.int ((py * ww) + px))])) _
      refine XS.iconst Xo406.here hx rfl (hb hby at_639) ?_
      show Steps p.tables e below (T404.setTop (mkF m 640 #[.val (.int sd), .val (.int xs), .val (.int ys), .val (.int ws0), .val (.int hs), .val (.long pk), .second, .val (.int sd), .val (.ref b1), .val (.ref b2), .val (.int xx), .val (.int yy), .val (.int ww), .val (.int (3 : Int32)), .val (.int px), .val (.int py), .val (.int kx), .val (.ref im), .val (.ref pc), .unset, .unset] [(.int (4 : Int32)), (.int ((py * ww) + px))])) _
      refine XS.imul Xo406.here hx rfl (hb hby at_640) rfl ?_
      show Steps p.tables e below (T404.setTop (mkF m 641 #[.val (.int sd), .val (.int xs), .val (.int ys), .val (.int ws0), .val (.int hs), .val (.long pk), .second, .val (.int sd), .val (.ref b1), .val (.ref b2), .val (.int xx), .val (.int yy), .val (.int ww), .val (.int (3 : Int32)), .val (.int px), .val (.int py), .val (.int kx), .val (.ref im), .val (.ref pc), .unset, .unset] [(.int (((py * ww) + px) * (4 : Int32)))])) _
      refine XS.iload Xo406.here hx rfl (hb hby at_641) rfl ?_
      show Steps p.tables e below (T404.setTop (mkF m 643 #[.val (.int sd), .val (.int xs), .val (.int ys), .val (.int ws0), .val (.int hs), .val (.long pk), .second, .val (.int sd), .val (.ref b1), .val (.ref b2), .val (.int xx), .val (.int yy), .val (.int ww), .val (.int (3 : Int32)), .val (.int px), .val (.int py), .val (.int kx), .val (.ref im), .val (.ref pc), .unset, .unset] [(.int kx), (.int (((py * ww) + px) * (4 : Int32)))])) _
      refine XS.iadd Xo406.here hx rfl (hb hby at_643) rfl ?_
      show Steps p.tables e below (T404.setTop (mkF m 644 #[.val (.int sd), .val (.int xs), .val (.int ys), .val (.int ws0), .val (.int hs), .val (.long pk), .second, .val (.int sd), .val (.ref b1), .val (.ref b2), .val (.int xx), .val (.int yy), .val (.int ww), .val (.int (3 : Int32)), .val (.int px), .val (.int py), .val (.int kx), .val (.ref im), .val (.ref pc), .unset, .unset] [(.int ((((py * ww) + px) * (4 : Int32)) + kx))])) _
      refine XS.istore Xo406.here hx rfl (hb hby at_644) rfl (l' := #[.val (.int sd), .val (.int xs), .val (.int ys), .val (.int ws0), .val (.int hs), .val (.long pk), .second, .val (.int sd), .val (.ref b1), .val (.ref b2), .val (.int xx), .val (.int yy), .val (.int ww), .val (.int (3 : Int32)), .val (.int px), .val (.int py), .val (.int kx), .val (.ref im), .val (.ref pc), .val (.int ((((py * ww) + px) * (4 : Int32)) + kx)), .unset]) rfl ?_
      show Steps p.tables e below (T404.setTop (mkF m 646 #[.val (.int sd), .val (.int xs), .val (.int ys), .val (.int ws0), .val (.int hs), .val (.long pk), .second, .val (.int sd), .val (.ref b1), .val (.ref b2), .val (.int xx), .val (.int yy), .val (.int ww), .val (.int (3 : Int32)), .val (.int px), .val (.int py), .val (.int kx), .val (.ref im), .val (.ref pc), .val (.int ((((py * ww) + px) * (4 : Int32)) + kx)), .unset] [])) _
      refine XS.iload Xo406.here hx rfl (hb hby at_646) rfl ?_
      show Steps p.tables e below (T404.setTop (mkF m 648 #[.val (.int sd), .val (.int xs), .val (.int ys), .val (.int ws0), .val (.int hs), .val (.long pk), .second, .val (.int sd), .val (.ref b1), .val (.ref b2), .val (.int xx), .val (.int yy), .val (.int ww), .val (.int (3 : Int32)), .val (.int px), .val (.int py), .val (.int kx), .val (.ref im), .val (.ref pc), .val (.int ((((py * ww) + px) * (4 : Int32)) + kx)), .unset] [(.int yy)])) _
      refine XS.iload Xo406.here hx rfl (hb hby at_648) rfl ?_
      show Steps p.tables e below (T404.setTop (mkF m 650 #[.val (.int sd), .val (.int xs), .val (.int ys), .val (.int ws0), .val (.int hs), .val (.long pk), .second, .val (.int sd), .val (.ref b1), .val (.ref b2), .val (.int xx), .val (.int yy), .val (.int ww), .val (.int (3 : Int32)), .val (.int px), .val (.int py), .val (.int kx), .val (.ref im), .val (.ref pc), .val (.int ((((py * ww) + px) * (4 : Int32)) + kx)), .unset] [(.int py), (.int yy)])) _
      refine XS.iadd Xo406.here hx rfl (hb hby at_650) rfl ?_
      show Steps p.tables e below (T404.setTop (mkF m 651 #[.val (.int sd), .val (.int xs), .val (.int ys), .val (.int ws0), .val (.int hs), .val (.long pk), .second, .val (.int sd), .val (.ref b1), .val (.ref b2), .val (.int xx), .val (.int yy), .val (.int ww), .val (.int (3 : Int32)), .val (.int px), .val (.int py), .val (.int kx), .val (.ref im), .val (.ref pc), .val (.int ((((py * ww) + px) * (4 : Int32)) + kx)), .unset] [(.int (yy + py))])) _
      refine XS.iconst Xo406.here hx rfl (hb hby at_651) ?_
      show Steps p.tables e below (T404.setTop (mkF m 652 #[.val (.int sd), .val (.int xs), .val (.int ys), .val (.int ws0), .val (.int hs), .val (.long pk), .second, .val (.int sd), .val (.ref b1), .val (.ref b2), .val (.int xx), .val (.int yy), .val (.int ww), .val (.int (3 : Int32)), .val (.int px), .val (.int py), .val (.int kx), .val (.ref im), .val (.ref pc), .val (.int ((((py * ww) + px) * (4 : Int32)) + kx)), .unset] [(.int (4 : Int32)), (.int (yy + py))])) _
      refine XS.imul Xo406.here hx rfl (hb hby at_652) rfl ?_
      show Steps p.tables e below (T404.setTop (mkF m 653 #[.val (.int sd), .val (.int xs), .val (.int ys), .val (.int ws0), .val (.int hs), .val (.long pk), .second, .val (.int sd), .val (.ref b1), .val (.ref b2), .val (.int xx), .val (.int yy), .val (.int ww), .val (.int (3 : Int32)), .val (.int px), .val (.int py), .val (.int kx), .val (.ref im), .val (.ref pc), .val (.int ((((py * ww) + px) * (4 : Int32)) + kx)), .unset] [(.int ((yy + py) * (4 : Int32)))])) _
      refine XS.iload Xo406.here hx rfl (hb hby at_653) rfl ?_
      show Steps p.tables e below (T404.setTop (mkF m 655 #[.val (.int sd), .val (.int xs), .val (.int ys), .val (.int ws0), .val (.int hs), .val (.long pk), .second, .val (.int sd), .val (.ref b1), .val (.ref b2), .val (.int xx), .val (.int yy), .val (.int ww), .val (.int (3 : Int32)), .val (.int px), .val (.int py), .val (.int kx), .val (.ref im), .val (.ref pc), .val (.int ((((py * ww) + px) * (4 : Int32)) + kx)), .unset] [(.int xx), (.int ((yy + py) * (4 : Int32)))])) _
      refine XS.iload Xo406.here hx rfl (hb hby at_655) rfl ?_
      show Steps p.tables e below (T404.setTop (mkF m 657 #[.val (.int sd), .val (.int xs), .val (.int ys), .val (.int ws0), .val (.int hs), .val (.long pk), .second, .val (.int sd), .val (.ref b1), .val (.ref b2), .val (.int xx), .val (.int yy), .val (.int ww), .val (.int (3 : Int32)), .val (.int px), .val (.int py), .val (.int kx), .val (.ref im), .val (.ref pc), .val (.int ((((py * ww) + px) * (4 : Int32)) + kx)), .unset] [(.int px), (.int xx), (.int ((yy + py) * (4 : Int32)))])) _
      refine XS.iadd Xo406.here hx rfl (hb hby at_657) rfl ?_
      show Steps p.tables e below (T404.setTop (mkF m 658 #[.val (.int sd), .val (.int xs), .val (.int ys), .val (.int ws0), .val (.int hs), .val (.long pk), .second, .val (.int sd), .val (.ref b1), .val (.ref b2), .val (.int xx), .val (.int yy), .val (.int ww), .val (.int (3 : Int32)), .val (.int px), .val (.int py), .val (.int kx), .val (.ref im), .val (.ref pc), .val (.int ((((py * ww) + px) * (4 : Int32)) + kx)), .unset] [(.int (xx + px)), (.int ((yy + py) * (4 : Int32)))])) _
      refine XS.iadd Xo406.here hx rfl (hb hby at_658) rfl ?_
      show Steps p.tables e below (T404.setTop (mkF m 659 #[.val (.int sd), .val (.int xs), .val (.int ys), .val (.int ws0), .val (.int hs), .val (.long pk), .second, .val (.int sd), .val (.ref b1), .val (.ref b2), .val (.int xx), .val (.int yy), .val (.int ww), .val (.int (3 : Int32)), .val (.int px), .val (.int py), .val (.int kx), .val (.ref im), .val (.ref pc), .val (.int ((((py * ww) + px) * (4 : Int32)) + kx)), .unset] [(.int (((yy + py) * (4 : Int32)) + (xx + px)))])) _
      refine XS.iconst Xo406.here hx rfl (hb hby at_659) ?_
      show Steps p.tables e below (T404.setTop (mkF m 660 #[.val (.int sd), .val (.int xs), .val (.int ys), .val (.int ws0), .val (.int hs), .val (.long pk), .second, .val (.int sd), .val (.ref b1), .val (.ref b2), .val (.int xx), .val (.int yy), .val (.int ww), .val (.int (3 : Int32)), .val (.int px), .val (.int py), .val (.int kx), .val (.ref im), .val (.ref pc), .val (.int ((((py * ww) + px) * (4 : Int32)) + kx)), .unset] [(.int (4 : Int32)), (.int (((yy + py) * (4 : Int32)) + (xx + px)))])) _
      refine XS.imul Xo406.here hx rfl (hb hby at_660) rfl ?_
      show Steps p.tables e below (T404.setTop (mkF m 661 #[.val (.int sd), .val (.int xs), .val (.int ys), .val (.int ws0), .val (.int hs), .val (.long pk), .second, .val (.int sd), .val (.ref b1), .val (.ref b2), .val (.int xx), .val (.int yy), .val (.int ww), .val (.int (3 : Int32)), .val (.int px), .val (.int py), .val (.int kx), .val (.ref im), .val (.ref pc), .val (.int ((((py * ww) + px) * (4 : Int32)) + kx)), .unset] [(.int ((((yy + py) * (4 : Int32)) + (xx + px)) * (4 : Int32)))])) _
      refine XS.iload Xo406.here hx rfl (hb hby at_661) rfl ?_
      show Steps p.tables e below (T404.setTop (mkF m 663 #[.val (.int sd), .val (.int xs), .val (.int ys), .val (.int ws0), .val (.int hs), .val (.long pk), .second, .val (.int sd), .val (.ref b1), .val (.ref b2), .val (.int xx), .val (.int yy), .val (.int ww), .val (.int (3 : Int32)), .val (.int px), .val (.int py), .val (.int kx), .val (.ref im), .val (.ref pc), .val (.int ((((py * ww) + px) * (4 : Int32)) + kx)), .unset] [(.int kx), (.int ((((yy + py) * (4 : Int32)) + (xx + px)) * (4 : Int32)))])) _
      refine XS.iadd Xo406.here hx rfl (hb hby at_663) rfl ?_
      show Steps p.tables e below (T404.setTop (mkF m 664 #[.val (.int sd), .val (.int xs), .val (.int ys), .val (.int ws0), .val (.int hs), .val (.long pk), .second, .val (.int sd), .val (.ref b1), .val (.ref b2), .val (.int xx), .val (.int yy), .val (.int ww), .val (.int (3 : Int32)), .val (.int px), .val (.int py), .val (.int kx), .val (.ref im), .val (.ref pc), .val (.int ((((py * ww) + px) * (4 : Int32)) + kx)), .unset] [(.int (((((yy + py) * (4 : Int32)) + (xx + px)) * (4 : Int32)) + kx))])) _
      refine XS.istore Xo406.here hx rfl (hb hby at_664) rfl (l' := #[.val (.int sd), .val (.int xs), .val (.int ys), .val (.int ws0), .val (.int hs), .val (.long pk), .second, .val (.int sd), .val (.ref b1), .val (.ref b2), .val (.int xx), .val (.int yy), .val (.int ww), .val (.int (3 : Int32)), .val (.int px), .val (.int py), .val (.int kx), .val (.ref im), .val (.ref pc), .val (.int ((((py * ww) + px) * (4 : Int32)) + kx)), .val (.int (((((yy + py) * (4 : Int32)) + (xx + px)) * (4 : Int32)) + kx))]) rfl ?_
      show Steps p.tables e below (T404.setTop (mkF m 666 #[.val (.int sd), .val (.int xs), .val (.int ys), .val (.int ws0), .val (.int hs), .val (.long pk), .second, .val (.int sd), .val (.ref b1), .val (.ref b2), .val (.int xx), .val (.int yy), .val (.int ww), .val (.int (3 : Int32)), .val (.int px), .val (.int py), .val (.int kx), .val (.ref im), .val (.ref pc), .val (.int ((((py * ww) + px) * (4 : Int32)) + kx)), .val (.int (((((yy + py) * (4 : Int32)) + (xx + px)) * (4 : Int32)) + kx))] [])) _
      refine XS.aload Xo406.here hx rfl (hb hby at_666) rfl rfl ?_
      show Steps p.tables e below (T404.setTop (mkF m 668 #[.val (.int sd), .val (.int xs), .val (.int ys), .val (.int ws0), .val (.int hs), .val (.long pk), .second, .val (.int sd), .val (.ref b1), .val (.ref b2), .val (.int xx), .val (.int yy), .val (.int ww), .val (.int (3 : Int32)), .val (.int px), .val (.int py), .val (.int kx), .val (.ref im), .val (.ref pc), .val (.int ((((py * ww) + px) * (4 : Int32)) + kx)), .val (.int (((((yy + py) * (4 : Int32)) + (xx + px)) * (4 : Int32)) + kx))] [(.ref pc)])) _
      refine XS.iload Xo406.here hx rfl (hb hby at_668) rfl ?_
      show Steps p.tables e below (T404.setTop (mkF m 670 #[.val (.int sd), .val (.int xs), .val (.int ys), .val (.int ws0), .val (.int hs), .val (.long pk), .second, .val (.int sd), .val (.ref b1), .val (.ref b2), .val (.int xx), .val (.int yy), .val (.int ww), .val (.int (3 : Int32)), .val (.int px), .val (.int py), .val (.int kx), .val (.ref im), .val (.ref pc), .val (.int ((((py * ww) + px) * (4 : Int32)) + kx)), .val (.int (((((yy + py) * (4 : Int32)) + (xx + px)) * (4 : Int32)) + kx))] [(.int ((((py * ww) + px) * (4 : Int32)) + kx)), (.ref pc)])) _
      exact k
    obtain ⟨cc412, Ar412, q1_412, Sz412, q3_412, Hs412, G412⟩ := id Vp404
    have hin412 : ¬ (((((py * ww) + px) * (4 : Int32)) + kx) < 0 ∨ cc412.slots.size ≤ (((((py * ww) + px) * (4 : Int32)) + kx) : Int32).toNatClampNeg) := inb_of Sz412 (own_lt gq1 hn1 gqm)
    have hat412 : cc412.slots[(((((py * ww) + px) * (4 : Int32)) + kx) : Int32).toNatClampNeg]? = some (.int ((sd + (Int32.ofNat (((yy.toNatClampNeg + py.toNatClampNeg) * 4 + xx.toNatClampNeg) * 4 + (4 * px.toNatClampNeg + kx.toNatClampNeg)))).toInt8.toInt32)) := Hs412.at hin412 (by rw [gqc]; exact hval)
    have pre414 : ∀ t, Steps p.tables e below (T404.setTop (mkF m 685 #[.val (.int sd), .val (.int xs), .val (.int ys), .val (.int ws0), .val (.int hs), .val (.long pk), .second, .val (.int sd), .val (.ref b1), .val (.ref b2), .val (.int xx), .val (.int yy), .val (.int ww), .val (.int (3 : Int32)), .val (.int px), .val (.int py), .val (.int kx), .val (.ref im), .val (.ref pc), .val (.int ((((py * ww) + px) * (4 : Int32)) + kx)), .val (.int (((((yy + py) * (4 : Int32)) + (xx + px)) * (4 : Int32)) + kx))] [(.int (1 : Int32))])) t → Steps p.tables e below (s₁.setTop (entryFrame m #[(.int sd), (.int xs), (.int ys), (.int ws0), (.int hs), (.long pk)] maxLocals)) t := by
      intro t k
      refine pre411 t ?_
      refine Xo406.baloadBytes hx (j := ((((py * ww) + px) * (4 : Int32)) + kx)) (v := (.int ((sd + (Int32.ofNat (((yy.toNatClampNeg + py.toNatClampNeg) * 4 + xx.toNatClampNeg) * 4 + (4 * px.toNatClampNeg + kx.toNatClampNeg)))).toInt8.toInt32))) (by rw [e404]; exact Ar412.1) (State.isArrayOf_alike hZ.alike Ar412.2.1) Ar412.2.2 hin412 hat412 (g := (mkF m 670 #[.val (.int sd), .val (.int xs), .val (.int ys), .val (.int ws0), .val (.int hs), .val (.long pk), .second, .val (.int sd), .val (.ref b1), .val (.ref b2), .val (.int xx), .val (.int yy), .val (.int ww), .val (.int (3 : Int32)), .val (.int px), .val (.int py), .val (.int kx), .val (.ref im), .val (.ref pc), .val (.int ((((py * ww) + px) * (4 : Int32)) + kx)), .val (.int (((((yy + py) * (4 : Int32)) + (xx + px)) * (4 : Int32)) + kx))] [(.int ((((py * ww) + px) * (4 : Int32)) + kx)), (.ref pc)])) rfl rfl (hb hby at_670) _ ?_
      show Steps p.tables e below (T404.setTop (mkF m 671 #[.val (.int sd), .val (.int xs), .val (.int ys), .val (.int ws0), .val (.int hs), .val (.long pk), .second, .val (.int sd), .val (.ref b1), .val (.ref b2), .val (.int xx), .val (.int yy), .val (.int ww), .val (.int (3 : Int32)), .val (.int px), .val (.int py), .val (.int kx), .val (.ref im), .val (.ref pc), .val (.int ((((py * ww) + px) * (4 : Int32)) + kx)), .val (.int (((((yy + py) * (4 : Int32)) + (xx + px)) * (4 : Int32)) + kx))] [(.int ((sd + (Int32.ofNat (((yy.toNatClampNeg + py.toNatClampNeg) * 4 + xx.toNatClampNeg) * 4 + (4 * px.toNatClampNeg + kx.toNatClampNeg)))).toInt8.toInt32))])) _
      refine XS.iload Xo406.here hx rfl (hb hby at_671) rfl ?_
      show Steps p.tables e below (T404.setTop (mkF m 673 #[.val (.int sd), .val (.int xs), .val (.int ys), .val (.int ws0), .val (.int hs), .val (.long pk), .second, .val (.int sd), .val (.ref b1), .val (.ref b2), .val (.int xx), .val (.int yy), .val (.int ww), .val (.int (3 : Int32)), .val (.int px), .val (.int py), .val (.int kx), .val (.ref im), .val (.ref pc), .val (.int ((((py * ww) + px) * (4 : Int32)) + kx)), .val (.int (((((yy + py) * (4 : Int32)) + (xx + px)) * (4 : Int32)) + kx))] [(.int sd), (.int ((sd + (Int32.ofNat (((yy.toNatClampNeg + py.toNatClampNeg) * 4 + xx.toNatClampNeg) * 4 + (4 * px.toNatClampNeg + kx.toNatClampNeg)))).toInt8.toInt32))])) _
      refine XS.iload Xo406.here hx rfl (hb hby at_673) rfl ?_
      show Steps p.tables e below (T404.setTop (mkF m 675 #[.val (.int sd), .val (.int xs), .val (.int ys), .val (.int ws0), .val (.int hs), .val (.long pk), .second, .val (.int sd), .val (.ref b1), .val (.ref b2), .val (.int xx), .val (.int yy), .val (.int ww), .val (.int (3 : Int32)), .val (.int px), .val (.int py), .val (.int kx), .val (.ref im), .val (.ref pc), .val (.int ((((py * ww) + px) * (4 : Int32)) + kx)), .val (.int (((((yy + py) * (4 : Int32)) + (xx + px)) * (4 : Int32)) + kx))] [(.int (((((yy + py) * (4 : Int32)) + (xx + px)) * (4 : Int32)) + kx)), (.int sd), (.int ((sd + (Int32.ofNat (((yy.toNatClampNeg + py.toNatClampNeg) * 4 + xx.toNatClampNeg) * 4 + (4 * px.toNatClampNeg + kx.toNatClampNeg)))).toInt8.toInt32))])) _
      refine XS.iadd Xo406.here hx rfl (hb hby at_675) rfl ?_
      show Steps p.tables e below (T404.setTop (mkF m 676 #[.val (.int sd), .val (.int xs), .val (.int ys), .val (.int ws0), .val (.int hs), .val (.long pk), .second, .val (.int sd), .val (.ref b1), .val (.ref b2), .val (.int xx), .val (.int yy), .val (.int ww), .val (.int (3 : Int32)), .val (.int px), .val (.int py), .val (.int kx), .val (.ref im), .val (.ref pc), .val (.int ((((py * ww) + px) * (4 : Int32)) + kx)), .val (.int (((((yy + py) * (4 : Int32)) + (xx + px)) * (4 : Int32)) + kx))] [(.int (sd + (((((yy + py) * (4 : Int32)) + (xx + px)) * (4 : Int32)) + kx))), (.int ((sd + (Int32.ofNat (((yy.toNatClampNeg + py.toNatClampNeg) * 4 + xx.toNatClampNeg) * 4 + (4 * px.toNatClampNeg + kx.toNatClampNeg)))).toInt8.toInt32))])) _
      refine XT.i2b Xo406.here hx rfl (hb hby at_676) rfl ?_
      show Steps p.tables e below (T404.setTop (mkF m 677 #[.val (.int sd), .val (.int xs), .val (.int ys), .val (.int ws0), .val (.int hs), .val (.long pk), .second, .val (.int sd), .val (.ref b1), .val (.ref b2), .val (.int xx), .val (.int yy), .val (.int ww), .val (.int (3 : Int32)), .val (.int px), .val (.int py), .val (.int kx), .val (.ref im), .val (.ref pc), .val (.int ((((py * ww) + px) * (4 : Int32)) + kx)), .val (.int (((((yy + py) * (4 : Int32)) + (xx + px)) * (4 : Int32)) + kx))] [(.int ((sd + (((((yy + py) * (4 : Int32)) + (xx + px)) * (4 : Int32)) + kx)).toInt8.toInt32)), (.int ((sd + (Int32.ofNat (((yy.toNatClampNeg + py.toNatClampNeg) * 4 + xx.toNatClampNeg) * 4 + (4 * px.toNatClampNeg + kx.toNatClampNeg)))).toInt8.toInt32))])) _
      refine XS.icmpNo Xo406.here hx rfl (hb hby at_677) rfl (XT.ii_ne_f (by rw [go1])) ?_
      show Steps p.tables e below (T404.setTop (mkF m 680 #[.val (.int sd), .val (.int xs), .val (.int ys), .val (.int ws0), .val (.int hs), .val (.long pk), .second, .val (.int sd), .val (.ref b1), .val (.ref b2), .val (.int xx), .val (.int yy), .val (.int ww), .val (.int (3 : Int32)), .val (.int px), .val (.int py), .val (.int kx), .val (.ref im), .val (.ref pc), .val (.int ((((py * ww) + px) * (4 : Int32)) + kx)), .val (.int (((((yy + py) * (4 : Int32)) + (xx + px)) * (4 : Int32)) + kx))] [])) _
      refine XS.iconst Xo406.here hx rfl (hb hby at_680) ?_
      show Steps p.tables e below (T404.setTop (mkF m 681 #[.val (.int sd), .val (.int xs), .val (.int ys), .val (.int ws0), .val (.int hs), .val (.long pk), .second, .val (.int sd), .val (.ref b1), .val (.ref b2), .val (.int xx), .val (.int yy), .val (.int ww), .val (.int (3 : Int32)), .val (.int px), .val (.int py), .val (.int kx), .val (.ref im), .val (.ref pc), .val (.int ((((py * ww) + px) * (4 : Int32)) + kx)), .val (.int (((((yy + py) * (4 : Int32)) + (xx + px)) * (4 : Int32)) + kx))] [(.int (1 : Int32))])) _
      refine XS.goto Xo406.here hx rfl (pc0 := 681) (pc' := 685) rfl (hb hby at_681) (by decide) (by decide) ?_
      show Steps p.tables e below (T404.setTop (mkF m 685 #[.val (.int sd), .val (.int xs), .val (.int ys), .val (.int ws0), .val (.int hs), .val (.long pk), .second, .val (.int sd), .val (.ref b1), .val (.ref b2), .val (.int xx), .val (.int yy), .val (.int ww), .val (.int (3 : Int32)), .val (.int px), .val (.int py), .val (.int kx), .val (.ref im), .val (.ref pc), .val (.int ((((py * ww) + px) * (4 : Int32)) + kx)), .val (.int (((((yy + py) * (4 : Int32)) + (xx + px)) * (4 : Int32)) + kx))] [(.int (1 : Int32))])) _
      exact k
    obtain ⟨fs, hr, hrun, hended, hW, hsame⟩ := Xo406.leave (v := some (.int (1 : Int32))) (fun h => by rw [Bd.returns] at h; cases h)
    refine ⟨_, _, pre414 _ ?_, hrun, hended, _, _, rfl, ?_, ⟨_, rfl⟩, hW, hsame.mono (by decide) (by decide)⟩
    · exact retOut Xo406 hx Bd.returns rfl (Or.inl ⟨rfl, by simp, _, rfl⟩) (hb hby at_685) hr
    · show Qlaw Z sd xs ys ws0 hs pk h0 n0 _ T404.heap _
      rw [e404]
      exact ⟨rfl, No406⟩
set_option maxRecDepth 65536 in
set_option maxHeartbeats 40000000 in
theorem comes_1 {Post : Tables → Env → Array Value → State → Outcome → State → Prop} (hpost : ∀ tb e args s v u, (limb_1_1.after args s (.returned v) u = true ∧ limb_1_2.after args s (.returned v) u = true ∧ True) → FrameEnd s (.returned v) u (Jvm.fieldLocs frame_1_writes args s ++ Jvm.arrayLocs frame_1_arrays args s ++ Jvm.staticLocs frame_1_statics s) 24 576 → Post tb e args s (.returned v) u) :
    ArmFor flags0 classFile x code maxLocals ret World_1 tables_1 room_1 Calls_1 rest_1 Pre_1 Post := by
  intro l hfl _ _ p e ha hc hk s m args below hf hA hF happ hP
  obtain ⟨hcalls, hrest, hpre⟩ := hP
  obtain ⟨-, -, -, hnamed, -, -, -, hat⟩ := (Spec.applies_iff hf).mp happ
  obtain ⟨hg, hn⟩ := and_e (Cond.before_iff.mp (show (Jvm.Cond.and given_1 narrow_1).before args s = true from hpre))
  obtain ⟨gc, g0⟩ := and_e hg
  obtain ⟨w0, w1, w2, w3, w4, w5, rfl⟩ : ∃ w0 w1 w2 w3 w4 w5 : Value, args = #[w0, w1, w2, w3, w4, w5] := by
    have hs : args.size = 6 := by simpa [Cond.value, given_1] using gc
    obtain ⟨L⟩ := args
    match L, hs with
    | [w0, w1, w2, w3, w4, w5], _ => exact ⟨w0, w1, w2, w3, w4, w5, rfl⟩
  have hw := fun d (hd : d ∈ tables_1) => atoms_spec (ws := Jvm.Cond.code x code maxLocals ret :: tables_1) hat d (List.mem_cons_of_mem _ hd)
  have hfit : Fit s := fun {y c} hc i hi => by
    obtain ⟨ha, rfl⟩ := Array.getElem?_eq_some_iff.mp hc
    have q := List.all_eq_true.mp ((Array.all_eq_true_iff_forall_mem.mp hF) _ (Array.getElem_mem ha)) i (List.mem_range.mpr hi)
    simpa [Array.getElem?_eq_getElem hi] using q
  obtain ⟨ga0, gb0⟩ := and_e g0
  obtain ⟨i0, ei0⟩ := is_v ga0
  obtain rfl : w0 = (.int i0) := Option.some.inj ei0
  obtain ⟨ga1, gb1⟩ := and_e gb0
  obtain ⟨i1, ei1⟩ := is_v ga1
  obtain rfl : w1 = (.int i1) := Option.some.inj ei1
  obtain ⟨ga2, gb2⟩ := and_e gb1
  obtain ⟨i2, ei2⟩ := is_v ga2
  obtain rfl : w2 = (.int i2) := Option.some.inj ei2
  obtain ⟨ga3, gb3⟩ := and_e gb2
  obtain ⟨i3, ei3⟩ := is_v ga3
  obtain rfl : w3 = (.int i3) := Option.some.inj ei3
  obtain ⟨ga4, gb4⟩ := and_e gb3
  obtain ⟨i4, ei4⟩ := is_v ga4
  obtain rfl : w4 = (.int i4) := Option.some.inj ei4
  obtain ⟨i5, ei5⟩ := isL_v gb4
  obtain rfl : w5 = (.long i5) := Option.some.inj ei5
  obtain ⟨n, o, h1, h2, h3, _, L, rfl, ⟨rfl, N⟩, hq⟩ := rmlaw l s _ hw tables_1 i0 i1 i2 i3 i4 i5 s.heap s.heap.size (Nat.le_refl _)  p e ha hc hk s m _ below hf ((Spec.applies_iff_loose hf).mp happ).1 ⟨rfl, State.Warmed39.refl s, rfl⟩ trivial
  refine ⟨n, _, h1, h2, h3, hpost _ _ _ _ _ _ ⟨Cond.after_iff.mpr rfl, Cond.after_iff.mpr (eq_i res_at (Term.int_eval (1)) rfl), trivial⟩ ⟨hq.1, hq.2.1, (hq.2.2.sift fun y hy => Or.inr (N y hy)).mono (by decide) (by decide)⟩⟩
theorem main_1_1 : Claimed_1_1 := comes_1 fun _ _ _ _ _ _ h hF => ⟨h.1, hF⟩
theorem main_1_2 : Claimed_1_2 := comes_1 fun _ _ _ _ _ _ h hF => ⟨h.2.1, hF⟩
end Jvm.Pilot.@@N@@
namespace Jvm.Pilot.@@N@@
open Jvm Jvm.ClassFile Sem Op Lib Jvm.Free Jvm.Stand Jvm.Pilot.@@N@@.Jvm.D
/-! MADE BY PROGRAM (witnessworld.py) out of the Statement's table words and the real class files: 10 classes; the members and pool entries that the words name. The judged class is class 1, her method 1. -/
namespace start1
open Jvm.ClassFile
def u (s : String) : CpInfo := .utf8 (stringToUtf16 s)
/-- a pool by its gaps: so many unusable entries, then the entry; so many at the end -/
def gap : Nat → List CpInfo → List CpInfo
  | 0, r => r
  | n + 1, r => .unusable :: gap n r
def poolList (es : List (Nat × CpInfo)) (last : Nat) : List CpInfo := es.foldr (fun e r => gap e.1 (e.2 :: r)) (gap last [])
def pool (es : List (Nat × CpInfo)) (last : Nat) : Array CpInfo := ⟨poolList es last⟩
def fileOf (pool : Array CpInfo) (this : Nat) (attrs : Array Attribute := #[]) (ms : Array MethodInfo := #[]) (fl : Nat := 33) (sup : Nat := 0) (ifs : Array Nat := #[]) (fds : Array FieldInfo := #[]) : ClassFile where
  minorVersion := 0
  majorVersion := 65
  constantPool := pool
  accessFlags := fl
  thisClass := this
  superClass := sup
  interfaces := ifs
  fields := fds
  methods := ms
  attributes := attrs
def plain (name : String) (sup : Option ClassId) : Class where
  name := name
  kind := .ordinary
  loader := none
  accessFlags := 33
  super := sup
  interfaces := #[]
  cf := none
  fields := #[]
  methods := #[]
  instanceTypes := #[]
  staticTypes := #[]
  resolved := #[]
  callSites := []
  init := .initialized
  statics := none
  mirror := none

def pool0 : Array CpInfo := pool [(5, u "<init>"), (0, u "()V"), (1, .class_ 10), (1, u "java/lang/Object"), (85, u "clone"), (0, u "()Ljava/lang/Object;")] 26

def k0c0 : Code := { maxStack := 0, maxLocals := 1, code := object_method_1_code, exceptionTable := #[], attributes := #[] }
def k0m0 : Method := { name := "<init>", desc := "()V", sig := { parameters := [], returnType := none }, accessFlags := 1, code := some k0c0 }
def k0m1 : Method := { name := "clone", desc := "()Ljava/lang/Object;", sig := { parameters := [], returnType := some (.object "java/lang/Object") }, accessFlags := 260, code := none }
/-- java/lang/Object -/
def k0 : Class := { plain "java/lang/Object" none with
  accessFlags := 33
  interfaces := #[]
  cf := some (fileOf pool0 8 #[] #[{ accessFlags := 1, nameIndex := 5, descriptorIndex := 6, attributes := #[] }, { accessFlags := 260, nameIndex := 96, descriptorIndex := 97, attributes := #[] }] 33 0 #[] #[])
  fields := #[]
  methods := #[k0m0, k0m1]
  instanceTypes := #[]
  staticTypes := #[]
  resolved := Array.replicate 124 none
  statics := none }

def pool1 : Array CpInfo := pool [(2, .class_ 4), (1, u "java/lang/Object"), (0, u "<init>"), (0, u "()V"), (0, .class_ 8), (0, u "com/example/facetwork/facetwork/image/RgbaImage"), (0, .methodref 7 10), (0, .nameAndType 5 11), (0, u "(II[B)V"), (0, .integer 2147483647), (0, .long 2147483647), (1, .long 3), (1, .methodref 7 18), (0, .nameAndType 19 20), (0, u "crop"), (0, u "(IIII)Lcom/example/facetwork/facetwork/image/RgbaImage;"), (0, .methodref 7 22), (0, .nameAndType 23 24), (0, u "width"), (0, u "()I"), (0, .methodref 7 26), (0, .nameAndType 27 24), (0, u "height"), (0, .methodref 7 29), (0, .nameAndType 30 31), (0, u "pixels"), (0, u "()[B"), (0, .class_ 33), (0, u "com/example/facetwork/facetwork/image/RgbaImageCropPinLaw"), (2, u "law"), (0, u "(IIIIIJ)Z")] 5

def k1m0 : Method := { name := "<init>", desc := "()V", sig := { parameters := [], returnType := none }, accessFlags := 1, code := none }
def k1c1 : Code := { maxStack := 5, maxLocals := 21, code := code, exceptionTable := #[], attributes := #[] }
def k1m1 : Method := { name := "law", desc := "(IIIIIJ)Z", sig := { parameters := [.int, .int, .int, .int, .int, .long], returnType := some .boolean }, accessFlags := 9, code := some k1c1 }
/-- com/example/facetwork/facetwork/image/RgbaImageCropPinLaw -/
def k1 : Class := { plain "com/example/facetwork/facetwork/image/RgbaImageCropPinLaw" (some 0) with
  accessFlags := 49
  interfaces := #[]
  cf := some (fileOf pool1 32 #[] #[{ accessFlags := 1, nameIndex := 5, descriptorIndex := 6, attributes := #[] }, { accessFlags := 9, nameIndex := 36, descriptorIndex := 37, attributes := #[] }] 49 2 #[] #[])
  fields := #[]
  methods := #[k1m0, k1m1]
  instanceTypes := #[]
  staticTypes := #[]
  resolved := Array.replicate 43 none
  statics := none }

def pool2 : Array CpInfo := pool [(1, .methodref 2 3), (0, .class_ 4), (0, .nameAndType 5 6), (0, u "java/lang/Object"), (0, u "<init>"), (0, u "()V"), (9, .long 4), (4, .fieldref 22 23), (0, .class_ 24), (0, .nameAndType 25 26), (0, u "com/example/facetwork/facetwork/image/RgbaImage"), (0, u "width"), (0, u "I"), (0, .fieldref 22 28), (0, .nameAndType 29 26), (0, u "height"), (0, .methodref 31 32), (0, .class_ 33), (0, .nameAndType 34 35), (0, u "[B"), (0, u "clone"), (0, u "()Ljava/lang/Object;"), (0, .fieldref 22 37), (0, .nameAndType 38 33), (0, u "pixels"), (3, .methodref 43 44), (0, .class_ 45), (0, .nameAndType 46 47), (0, u "java/lang/System"), (0, u "arraycopy"), (0, u "(Ljava/lang/Object;ILjava/lang/Object;II)V"), (0, .methodref 22 49), (0, .nameAndType 5 50), (0, u "(II[B)V"), (9, u "()I"), (0, u "()[B"), (0, u "crop"), (0, u "(IIII)Lcom/example/facetwork/facetwork/image/RgbaImage;")] 25

def k2c0 : Code := { maxStack := 8, maxLocals := 4, code := prog_4_method_1_code, exceptionTable := #[], attributes := #[] }
def k2m0 : Method := { name := "<init>", desc := "(II[B)V", sig := { parameters := [.int, .int, (.array .byte)], returnType := none }, accessFlags := 1, code := some k2c0 }
def k2c1 : Code := { maxStack := 1, maxLocals := 1, code := prog_4_method_2_code, exceptionTable := #[], attributes := #[] }
def k2m1 : Method := { name := "width", desc := "()I", sig := { parameters := [], returnType := some .int }, accessFlags := 1, code := some k2c1 }
def k2c2 : Code := { maxStack := 1, maxLocals := 1, code := prog_4_method_3_code, exceptionTable := #[], attributes := #[] }
def k2m2 : Method := { name := "height", desc := "()I", sig := { parameters := [], returnType := some .int }, accessFlags := 1, code := some k2c2 }
def k2c3 : Code := { maxStack := 1, maxLocals := 1, code := prog_4_method_4_code, exceptionTable := #[], attributes := #[] }
def k2m3 : Method := { name := "pixels", desc := "()[B", sig := { parameters := [], returnType := some (.array .byte) }, accessFlags := 1, code := some k2c3 }
def k2c4 : Code := { maxStack := 8, maxLocals := 8, code := prog_4_method_5_code, exceptionTable := #[], attributes := #[] }
def k2m4 : Method := { name := "crop", desc := "(IIII)Lcom/example/facetwork/facetwork/image/RgbaImage;", sig := { parameters := [.int, .int, .int, .int], returnType := some (.object "com/example/facetwork/facetwork/image/RgbaImage") }, accessFlags := 1, code := some k2c4 }
/-- com/example/facetwork/facetwork/image/RgbaImage -/
def k2 : Class := { plain "com/example/facetwork/facetwork/image/RgbaImage" (some 0) with
  accessFlags := 49
  interfaces := #[]
  cf := some (fileOf pool2 22 #[] #[{ accessFlags := 1, nameIndex := 5, descriptorIndex := 50, attributes := #[] }, { accessFlags := 1, nameIndex := 25, descriptorIndex := 60, attributes := #[] }, { accessFlags := 1, nameIndex := 29, descriptorIndex := 60, attributes := #[] }, { accessFlags := 1, nameIndex := 38, descriptorIndex := 61, attributes := #[] }, { accessFlags := 1, nameIndex := 62, descriptorIndex := 63, attributes := #[] }] 49 2 #[] #[{ accessFlags := 18, nameIndex := 25, descriptorIndex := 26, attributes := #[] }, { accessFlags := 18, nameIndex := 29, descriptorIndex := 26, attributes := #[] }, { accessFlags := 18, nameIndex := 38, descriptorIndex := 33, attributes := #[] }])
  fields := #[{ name := "width", type := .int, accessFlags := 18, slot := 0, constantValue := 0 }, { name := "height", type := .int, accessFlags := 18, slot := 1, constantValue := 0 }, { name := "pixels", type := (.array .byte), accessFlags := 18, slot := 2, constantValue := 0 }]
  methods := #[k2m0, k2m1, k2m2, k2m3, k2m4]
  instanceTypes := #[.int, .int, (.array .byte)]
  staticTypes := #[]
  resolved := Array.replicate 89 none
  statics := none }

def pool3 : Array CpInfo := pool [(1, .class_ 2), (0, u "java/lang/Cloneable"), (0, .class_ 4), (0, u "java/lang/Object")] 2

/-- java/lang/Cloneable -/
def k3 : Class := { plain "java/lang/Cloneable" (some 0) with
  accessFlags := 1537
  interfaces := #[]
  cf := some (fileOf pool3 1 #[] #[] 1537 3 #[] #[])
  fields := #[]
  methods := #[]
  instanceTypes := #[]
  staticTypes := #[]
  resolved := Array.replicate 7 none
  statics := none }

def pool4 : Array CpInfo := pool [(2, .class_ 4), (1, u "java/lang/Object"), (0, u "<init>"), (0, u "()V"), (1, .class_ 10), (1, u "java/lang/System"), (0, u "allowSecurityManager"), (0, u "I"), (16, u "cons"), (0, u "Ljava/io/Console;"), (77, .class_ 110), (1, u "java/lang/System$CallersHolder"), (43, u "initialErrStream"), (0, u "Ljava/io/PrintStream;"), (19, u "security"), (0, u "Ljava/lang/SecurityManager;"), (31, .class_ 209), (0, u "java/lang/System$1"), (7, u "props"), (0, u "Ljava/util/Properties;"), (2, u "lineSeparator"), (0, u "Ljava/lang/String;"), (96, .class_ 321), (1, u "java/lang/System$LoggerFinder"), (5, .class_ 328), (0, u "java/lang/System$Logger"), (67, u "err"), (2, u "out"), (91, u "notSupportedJnuEncoding"), (15, u "in"), (17, u "initialIn"), (0, u "Ljava/io/InputStream;"), (35, u "bootLayer"), (0, u "Ljava/lang/ModuleLayer;"), (99, .class_ 664), (0, u "java/lang/System$2"), (9, u "NEVER"), (2, u "MAYBE"), (49, u "arraycopy"), (0, u "(Ljava/lang/Object;ILjava/lang/Object;II)V"), (72, .class_ 802), (0, u "java/lang/System$Logger$Level")] 31

def k4m0 : Method := { name := "<init>", desc := "()V", sig := { parameters := [], returnType := none }, accessFlags := 2, code := none }
def k4m1 : Method := { name := "arraycopy", desc := "(Ljava/lang/Object;ILjava/lang/Object;II)V", sig := { parameters := [(.object "java/lang/Object"), .int, (.object "java/lang/Object"), .int, .int], returnType := none }, accessFlags := 265, code := none }
/-- java/lang/System -/
def k4 : Class := { plain "java/lang/System" (some 0) with
  accessFlags := 49
  interfaces := #[]
  cf := some (fileOf pool4 8 #[.nestMembers #[319, 327, 801, 108, 663, 208]] #[{ accessFlags := 2, nameIndex := 5, descriptorIndex := 6, attributes := #[] }, { accessFlags := 265, nameIndex := 727, descriptorIndex := 728, attributes := #[] }] 49 2 #[] #[{ accessFlags := 25, nameIndex := 507, descriptorIndex := 526, attributes := #[] }, { accessFlags := 25, nameIndex := 399, descriptorIndex := 155, attributes := #[] }, { accessFlags := 25, nameIndex := 396, descriptorIndex := 155, attributes := #[] }, { accessFlags := 10, nameIndex := 525, descriptorIndex := 526, attributes := #[] }, { accessFlags := 26, nameIndex := 674, descriptorIndex := 12, attributes := #[] }, { accessFlags := 26, nameIndex := 677, descriptorIndex := 12, attributes := #[] }, { accessFlags := 10, nameIndex := 11, descriptorIndex := 12, attributes := #[] }, { accessFlags := 74, nameIndex := 175, descriptorIndex := 176, attributes := #[] }, { accessFlags := 10, nameIndex := 491, descriptorIndex := 222, attributes := #[] }, { accessFlags := 74, nameIndex := 29, descriptorIndex := 30, attributes := #[] }, { accessFlags := 74, nameIndex := 154, descriptorIndex := 155, attributes := #[] }, { accessFlags := 10, nameIndex := 217, descriptorIndex := 218, attributes := #[] }, { accessFlags := 10, nameIndex := 221, descriptorIndex := 222, attributes := #[] }, { accessFlags := 8, nameIndex := 562, descriptorIndex := 563, attributes := #[] }])
  fields := #[{ name := "in", type := (.object "java/io/InputStream"), accessFlags := 25, slot := 0, constantValue := 0 }, { name := "out", type := (.object "java/io/PrintStream"), accessFlags := 25, slot := 1, constantValue := 0 }, { name := "err", type := (.object "java/io/PrintStream"), accessFlags := 25, slot := 2, constantValue := 0 }, { name := "initialIn", type := (.object "java/io/InputStream"), accessFlags := 10, slot := 3, constantValue := 0 }, { name := "NEVER", type := .int, accessFlags := 26, slot := 4, constantValue := 0 }, { name := "MAYBE", type := .int, accessFlags := 26, slot := 5, constantValue := 0 }, { name := "allowSecurityManager", type := .int, accessFlags := 10, slot := 6, constantValue := 0 }, { name := "security", type := (.object "java/lang/SecurityManager"), accessFlags := 74, slot := 7, constantValue := 0 }, { name := "notSupportedJnuEncoding", type := (.object "java/lang/String"), accessFlags := 10, slot := 8, constantValue := 0 }, { name := "cons", type := (.object "java/io/Console"), accessFlags := 74, slot := 9, constantValue := 0 }, { name := "initialErrStream", type := (.object "java/io/PrintStream"), accessFlags := 74, slot := 10, constantValue := 0 }, { name := "props", type := (.object "java/util/Properties"), accessFlags := 10, slot := 11, constantValue := 0 }, { name := "lineSeparator", type := (.object "java/lang/String"), accessFlags := 10, slot := 12, constantValue := 0 }, { name := "bootLayer", type := (.object "java/lang/ModuleLayer"), accessFlags := 8, slot := 13, constantValue := 0 }]
  methods := #[k4m0, k4m1]
  instanceTypes := #[]
  staticTypes := #[(.object "java/io/InputStream"), (.object "java/io/PrintStream"), (.object "java/io/PrintStream"), (.object "java/io/InputStream"), .int, .int, .int, (.object "java/lang/SecurityManager"), (.object "java/lang/String"), (.object "java/io/Console"), (.object "java/io/PrintStream"), (.object "java/util/Properties"), (.object "java/lang/String"), (.object "java/lang/ModuleLayer")]
  resolved := Array.replicate 834 none
  statics := none }

def pool5 : Array CpInfo := pool [(1, u "java/io/Serializable"), (0, .class_ 1), (0, u "java/lang/Object"), (0, .class_ 3)] 3

/-- java/io/Serializable -/
def k5 : Class := { plain "java/io/Serializable" (some 0) with
  accessFlags := 1537
  interfaces := #[]
  cf := some (fileOf pool5 2 #[] #[] 1537 4 #[] #[])
  fields := #[]
  methods := #[]
  instanceTypes := #[]
  staticTypes := #[]
  resolved := Array.replicate 8 none
  statics := none }

/-- the primitive byte -/
def k6 : Class := { plain "byte" none with kind := .primitive 'B', accessFlags := 0x411 }
/-- [B -/
def k7 : Class := { plain "[B" (some 0) with kind := .array 6 .byte, interfaces := #[3, 5], accessFlags := 1041 }

/-- the primitive int -/
def k8 : Class := { plain "int" none with kind := .primitive 'I', accessFlags := 0x411 }
/-- [I -/
def k9 : Class := { plain "[I" (some 0) with kind := .array 8 .int, interfaces := #[3, 5], accessFlags := 1041 }

def heap : Heap := #[]
def classes : Array Class := #[k0, k1, k2, k3, k4, k5, k6, k7, k8, k9]
def interned : List (Array UInt16 × Addr) := []
def slotsUsed : Nat := 0
def theMethod : MethodId := ⟨1, 1⟩
def args0 : Array Value := #[.int 1, .int 2, .int 1, .int 0, .int 1, .long 5]
def aboutOver (below : List Frame) : State where
  vm := { classes := classes, interned := interned.toArray }
  heap := heap
  slotsUsed := slotsUsed
  threads := #[{ frames := .invoking theMethod args0 :: below }]
def below0 : List Frame := [.native { method := ⟨0, 0⟩, args := #[] }]
def about1 : State := aboutOver below0
def p0 : Program := .bare "" "" ""
def e0 : Env := launch0.env 0 0 0
theorem w_frames : about1.frames = Frame.invoking theMethod args0 :: below0 := rfl
set_option maxRecDepth 65536 in
theorem w_args : argsFit about1.vm theMethod args0 = true := by decide +kernel
set_option maxRecDepth 65536 in
theorem w_heap : heapFits about1 = true := by decide +kernel
set_option maxRecDepth 65536 in
theorem w_runnable : about1.curStatus? = some .runnable := by decide +kernel
set_option maxRecDepth 65536 in
theorem w_alone : about1.alone = true := by decide +kernel
set_option maxRecDepth 65536 in
theorem w_named : about1.methodNamed? x = some theMethod := by decide +kernel
set_option maxRecDepth 65536 in
theorem w_hears : about1.hears theMethod below0 = true := by decide +kernel
set_option maxRecDepth 65536 in
theorem w_ripe : about1.ripe theMethod args0 below0 = true := by decide +kernel
theorem w_running : about1.status = .running := rfl
set_option maxRecDepth 65536 in
theorem w_room : about1.hasRoom e0.platform room_1 = true :=
  launch0.hasRoom_least _ room_1 (by decide +kernel) (by decide +kernel) (by decide +kernel) (by decide +kernel) (by decide +kernel) (by decide +kernel)
theorem allAtoms_all (ts : List Jvm.Cond) (a : Array Jvm.Value) (st : Jvm.State) : (allAtoms ts).before a st = ts.all (fun c => c.before a st) := by
  induction ts with
  | nil => rfl
  | cons c t ih =>
    show (Jvm.Cond.and c (allAtoms t)).before a st = _
    rw [Jvm.Cond.before_and, ih, List.all_cons]
def words1 : List Jvm.Cond := Jvm.Cond.code x code maxLocals ret :: tables_1
/-- a 'code' word, met by the world's own term for the bytes: nothing is compared byte by byte -/
theorem code_word {y : MethodName} {bytes : ByteArray} {mx : Nat} {rt : Option FieldType} {a : Array Value} {s : State} {m : MethodId} {meth : Method} {c : Code} (h1 : s.methodNamed? y = some m) (h2 : s.vm.method? m = some meth) (h3 : meth.code = some c) (h4 : c.code = bytes)
    (h5 : (c.maxLocals == mx && c.exceptionTable.isEmpty && decide (c.maxStack ≤ mostOperands) && decide (meth.sig.returnType = rt) && !meth.locks && decide (parseMethodDescriptor y.desc = some meth.sig)) = true) : (Jvm.Cond.code y bytes mx rt).before a s = true := by
  simp only [Bool.and_eq_true, beq_iff_eq, Bool.not_eq_true', decide_eq_true_eq] at h5
  obtain ⟨⟨⟨⟨⟨g1, g2⟩, g3⟩, g4⟩, g5⟩, g6⟩ := h5
  simp [Cond.before, Cond.holds, Cond.value, h1, h2, h3, h4, g1, g2, g3, g4, g5, g6]
def isCode : Jvm.Cond → Bool
  | .code _ _ _ _ => true
  | _ => false
theorem all_split {L : List Jvm.Cond} {P : Jvm.Cond → Bool} (h1 : L.all (fun c => isCode c || P c) = true) (h2 : ∀ c ∈ L.filter isCode, P c = true) : L.all P = true := by
  refine List.all_eq_true.mpr fun c hc => ?_
  have h := List.all_eq_true.mp h1 c hc
  rcases Bool.eq_false_or_eq_true (isCode c) with hi | hi
  · exact h2 c (List.mem_filter.mpr ⟨hc, hi⟩)
  · simpa [hi] using h
set_option maxRecDepth 65536 in
theorem w_c0 : (Jvm.Cond.code x code maxLocals ret).before args0 about1 = true := code_word (m := ⟨1, 1⟩) (meth := k1m1) (c := k1c1) (by decide +kernel) rfl rfl rfl (by decide +kernel)
set_option maxRecDepth 65536 in
theorem w_c1 : (Jvm.Cond.code ({ cls := "com/example/facetwork/facetwork/image/RgbaImage", name := "<init>", desc := "(II[B)V" } : Jvm.MethodName) prog_4_method_1_code (4 : Nat) (Option.none : Option Jvm.ClassFile.FieldType)).before args0 about1 = true := code_word (m := ⟨2, 0⟩) (meth := k2m0) (c := k2c0) (by decide +kernel) rfl rfl rfl (by decide +kernel)
set_option maxRecDepth 65536 in
theorem w_c2 : (Jvm.Cond.code ({ cls := "java/lang/Object", name := "<init>", desc := "()V" } : Jvm.MethodName) object_method_1_code (1 : Nat) (Option.none : Option Jvm.ClassFile.FieldType)).before args0 about1 = true := code_word (m := ⟨0, 0⟩) (meth := k0m0) (c := k0c0) (by decide +kernel) rfl rfl rfl (by decide +kernel)
set_option maxRecDepth 65536 in
theorem w_c3 : (Jvm.Cond.code ({ cls := "com/example/facetwork/facetwork/image/RgbaImage", name := "crop", desc := "(IIII)Lcom/example/facetwork/facetwork/image/RgbaImage;" } : Jvm.MethodName) prog_4_method_5_code (8 : Nat) (Option.some (Jvm.ClassFile.FieldType.object "com/example/facetwork/facetwork/image/RgbaImage"))).before args0 about1 = true := code_word (m := ⟨2, 4⟩) (meth := k2m4) (c := k2c4) (by decide +kernel) rfl rfl rfl (by decide +kernel)
set_option maxRecDepth 65536 in
theorem w_c4 : (Jvm.Cond.code ({ cls := "com/example/facetwork/facetwork/image/RgbaImage", name := "width", desc := "()I" } : Jvm.MethodName) prog_4_method_2_code (1 : Nat) (Option.some Jvm.ClassFile.FieldType.int)).before args0 about1 = true := code_word (m := ⟨2, 1⟩) (meth := k2m1) (c := k2c1) (by decide +kernel) rfl rfl rfl (by decide +kernel)
set_option maxRecDepth 65536 in
theorem w_c5 : (Jvm.Cond.code ({ cls := "com/example/facetwork/facetwork/image/RgbaImage", name := "height", desc := "()I" } : Jvm.MethodName) prog_4_method_3_code (1 : Nat) (Option.some Jvm.ClassFile.FieldType.int)).before args0 about1 = true := code_word (m := ⟨2, 2⟩) (meth := k2m2) (c := k2c2) (by decide +kernel) rfl rfl rfl (by decide +kernel)
set_option maxRecDepth 65536 in
theorem w_c6 : (Jvm.Cond.code ({ cls := "com/example/facetwork/facetwork/image/RgbaImage", name := "pixels", desc := "()[B" } : Jvm.MethodName) prog_4_method_4_code (1 : Nat) (Option.some (Jvm.ClassFile.FieldType.array Jvm.ClassFile.FieldType.byte))).before args0 about1 = true := code_word (m := ⟨2, 3⟩) (meth := k2m3) (c := k2c3) (by decide +kernel) rfl rfl rfl (by decide +kernel)
def codes1 : List Jvm.Cond := [Jvm.Cond.code x code maxLocals ret, Jvm.Cond.code ({ cls := "com/example/facetwork/facetwork/image/RgbaImage", name := "<init>", desc := "(II[B)V" } : Jvm.MethodName) prog_4_method_1_code (4 : Nat) (Option.none : Option Jvm.ClassFile.FieldType), Jvm.Cond.code ({ cls := "java/lang/Object", name := "<init>", desc := "()V" } : Jvm.MethodName) object_method_1_code (1 : Nat) (Option.none : Option Jvm.ClassFile.FieldType), Jvm.Cond.code ({ cls := "com/example/facetwork/facetwork/image/RgbaImage", name := "crop", desc := "(IIII)Lcom/example/facetwork/facetwork/image/RgbaImage;" } : Jvm.MethodName) prog_4_method_5_code (8 : Nat) (Option.some (Jvm.ClassFile.FieldType.object "com/example/facetwork/facetwork/image/RgbaImage")), Jvm.Cond.code ({ cls := "com/example/facetwork/facetwork/image/RgbaImage", name := "width", desc := "()I" } : Jvm.MethodName) prog_4_method_2_code (1 : Nat) (Option.some Jvm.ClassFile.FieldType.int), Jvm.Cond.code ({ cls := "com/example/facetwork/facetwork/image/RgbaImage", name := "height", desc := "()I" } : Jvm.MethodName) prog_4_method_3_code (1 : Nat) (Option.some Jvm.ClassFile.FieldType.int), Jvm.Cond.code ({ cls := "com/example/facetwork/facetwork/image/RgbaImage", name := "pixels", desc := "()[B" } : Jvm.MethodName) prog_4_method_4_code (1 : Nat) (Option.some (Jvm.ClassFile.FieldType.array Jvm.ClassFile.FieldType.byte))]
set_option maxRecDepth 65536 in
theorem codes_eq : words1.filter isCode = codes1 := rfl
theorem w_codes : ∀ c ∈ words1.filter isCode, c.before args0 about1 = true := by
  rw [codes_eq]
  intro c hc
  simp only [codes1, List.mem_cons, List.not_mem_nil, or_false] at hc
  rcases hc with rfl | rfl | rfl | rfl | rfl | rfl | rfl
  · exact w_c0
  · exact w_c1
  · exact w_c2
  · exact w_c3
  · exact w_c4
  · exact w_c5
  · exact w_c6
set_option maxRecDepth 65536 in
theorem w_t1 : (words1.take 24).all (fun c => isCode c || c.before args0 about1) = true := by decide +kernel
set_option maxRecDepth 65536 in
theorem w_t2 : ((words1.drop 24).take 24).all (fun c => isCode c || c.before args0 about1) = true := by decide +kernel
set_option maxRecDepth 65536 in
theorem w_t3 : ((words1.drop 24).drop 24).all (fun c => isCode c || c.before args0 about1) = true := by decide +kernel
theorem w_tables : (allAtoms (Jvm.Cond.code x code maxLocals ret :: tables_1)).before args0 about1 = true := by
  rw [allAtoms_all]
  show words1.all (fun c => c.before args0 about1) = true
  refine all_split ?_ w_codes
  rw [← List.take_append_drop 24 words1, List.all_append, w_t1, ← List.take_append_drop 24 (words1.drop 24), List.all_append, w_t2, w_t3]
  rfl
set_option maxRecDepth 65536 in
theorem w_case : (Jvm.Cond.and given_1 narrow_1).before args0 about1 = true := by decide +kernel
theorem w_applies : (headSpec (Jvm.Cond.code x code maxLocals ret :: tables_1) room_1).applies x e0.platform about1 = true :=
  (Spec.applies_iff w_frames).mpr ⟨w_running, w_runnable, w_alone, w_named, w_hears, w_ripe, w_room, w_tables⟩
theorem atStart : AtStart classFile x code maxLocals ret World_1 tables_1 room_1 Calls_1 rest_1 Pre_1 launch0 p0 e0 about1 theMethod args0 below0 :=
  ⟨lists_1, trivial, launch0.admits_env _ _ _, launch0.least_env, fairChoices_fair.cas, fairChoices_fair.clock, w_frames, w_args, w_heap, w_applies, trivial, trivial, w_case⟩
end start1
theorem witness_1 : WitnessClaimed_1 := ⟨start1.p0, start1.e0, start1.about1, start1.theMethod, start1.args0, start1.below0, start1.atStart⟩
end Jvm.Pilot.@@N@@
