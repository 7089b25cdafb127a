import JvmDerived
import JvmDerived.Pilot.@@N@@Statement
import JvmDerived.Pilot.@@N@@Code
set_option linter.unusedVariables false
set_option linter.unusedSimpArgs false
namespace Jvm.Pilot.@@N@@
open Jvm Jvm.ClassFile Sem Op Lib Jvm.Free Jvm.Stand Jvm.LawKit Jvm.RoadKit Bundle Jvm.Pilot.@@N@@.Jvm.D
def own_bi (P : Prop) [Decidable P] : Int32 := if P then 1 else 0
theorem own_bi_t {P : Prop} [Decidable P] (h : P) : own_bi P = 1 := if_pos h
theorem own_bi_f {P : Prop} [Decidable P] (h : ¬ P) : own_bi P = 0 := if_neg h
theorem own_bi_01 (P : Prop) [Decidable P] : own_bi P = 0 ∨ own_bi P = 1 := by by_cases h : P <;> simp [own_bi, h]
theorem own_bi_eq {P Q : Prop} [Decidable P] [Decidable Q] (h : P ↔ Q) : own_bi P = own_bi Q := by by_cases q : P <;> simp [own_bi, q, ← h]
theorem own_bi_iff (P : Prop) [Decidable P] : own_bi P = 1 ↔ P := by by_cases q : P <;> simp [own_bi, q]
theorem own_bi_ne (P : Prop) [Decidable P] : own_bi P = 0 ↔ ¬ P := by by_cases q : P <;> simp [own_bi, q]
theorem own_ofNat {n : Nat} (h : n < 2147483648) : (Int32.ofNat n).toInt = (n : Int) := len_toInt h
theorem own_narZ {z : Int32} (h : z = 0 ∨ z = 1) : narrow .boolean (.int z) = .int z := by rcases h with rfl | rfl <;> rfl
def own_w (x : Int32) : Int32 := if XT.ushr x ((8 : Int32) * (1 : Int32)) = 0 then 1 else if XT.ushr x ((8 : Int32) * ((1 : Int32) + (1 : Int32))) = 0 then ((1 : Int32) + (1 : Int32)) else if XT.ushr x ((8 : Int32) * (((1 : Int32) + (1 : Int32)) + (1 : Int32))) = 0 then (((1 : Int32) + (1 : Int32)) + (1 : Int32)) else ((((1 : Int32) + (1 : Int32)) + (1 : Int32)) + (1 : Int32))
def own_e (x : Int32) : Int32 := if (x.toInt64 &&& (4294967295 : Int64)) < (256 : Int64) then 1 else if (x.toInt64 &&& (4294967295 : Int64)) < (65536 : Int64) then 2 else if (x.toInt64 &&& (4294967295 : Int64)) < (16777216 : Int64) then 3 else 4
theorem own_sh (x k : Int32) (n : Nat) (h : k.toBitVec.toNat % 32 = n) (h0 : 0 < n) : XT.ushr x k = 0 ↔ (x.toInt % 4294967296) / (2 ^ n : Nat) = 0 := by
  have q := c_iushr x k n h h0
  rw [← Int32.toInt_inj]
  show ((x.toUInt32 >>> (k &&& 31).toUInt32).toInt32).toInt = 0 ↔ _
  rw [q]
theorem own_lt (x : Int32) (k : Int64) : (x.toInt64 &&& (4294967295 : Int64)) < k ↔ x.toInt % 4294967296 < k.toInt := by
  have q := c_maskL x.toInt64 4294967295 32 (by decide) (by decide)
  rw [c_i2l] at q
  rw [Int64.lt_iff_toInt_lt, q]
  exact Iff.rfl
theorem own_we (x : Int32) : own_w x = own_e x := by
  unfold own_w own_e
  simp only [own_lt, own_sh x ((8 : Int32) * (1 : Int32)) 8 (by decide) (by decide), own_sh x ((8 : Int32) * ((1 : Int32) + (1 : Int32))) 16 (by decide) (by decide), own_sh x ((8 : Int32) * (((1 : Int32) + (1 : Int32)) + (1 : Int32))) 24 (by decide) (by decide)]
  have e1 : (256 : Int64).toInt = 256 := rfl
  have e2 : (65536 : Int64).toInt = 65536 := rfl
  have e3 : (16777216 : Int64).toInt = 16777216 := rfl
  rw [e1, e2, e3]
  have h0 : 0 ≤ x.toInt % 4294967296 := by omega
  generalize x.toInt % 4294967296 = n at *
  by_cases a1 : n < 256
  · have b1 : n / (2 ^ 8 : Nat) = 0 := by omega
    rw [if_pos a1, if_pos b1]
  · have b1 : ¬ n / (2 ^ 8 : Nat) = 0 := by omega
    rw [if_neg a1, if_neg b1]
    by_cases a2 : n < 65536
    · have b2 : n / (2 ^ 16 : Nat) = 0 := by omega
      rw [if_pos a2, if_pos b2]; rfl
    · have b2 : ¬ n / (2 ^ 16 : Nat) = 0 := by omega
      rw [if_neg a2, if_neg b2]
      by_cases a3 : n < 16777216
      · have b3 : n / (2 ^ 24 : Nat) = 0 := by omega
        rw [if_pos a3, if_pos b3]; rfl
      · have b3 : ¬ n / (2 ^ 24 : Nat) = 0 := by omega
        rw [if_neg a3, if_neg b3]; rfl
theorem pn_1 : plainName "com/example/okra/okra/pack/StoredIndex" = true := by first | (simp [plainName, overriddenIn]; done) | decide +kernel
theorem d1_0 : decode prog_45_method_4_code 0 = .ok (.iconst 1, 1) := by decide +kernel
theorem d1_1 : decode prog_45_method_4_code 1 = .ok (.istore_n 1, 1) := by decide +kernel
theorem d1_2 : decode prog_45_method_4_code 2 = .ok (.iload_n 1, 1) := by decide +kernel
theorem d1_3 : decode prog_45_method_4_code 3 = .ok (.iconst 4, 1) := by decide +kernel
theorem d1_4 : decode prog_45_method_4_code 4 = .ok (.if_icmp .ge 18, 3) := by decide +kernel
theorem d1_7 : decode prog_45_method_4_code 7 = .ok (.iload_n 0, 1) := by decide +kernel
theorem d1_8 : decode prog_45_method_4_code 8 = .ok (.bipush 8, 2) := by decide +kernel
theorem d1_10 : decode prog_45_method_4_code 10 = .ok (.iload_n 1, 1) := by decide +kernel
theorem d1_11 : decode prog_45_method_4_code 11 = .ok (.imul, 1) := by decide +kernel
theorem d1_12 : decode prog_45_method_4_code 12 = .ok (.iushr, 1) := by decide +kernel
theorem d1_13 : decode prog_45_method_4_code 13 = .ok (.ifCond .eq 9, 3) := by decide +kernel
theorem d1_16 : decode prog_45_method_4_code 16 = .ok (.iinc 1 1, 3) := by decide +kernel
theorem d1_19 : decode prog_45_method_4_code 19 = .ok (.goto (-17), 3) := by decide +kernel
theorem d1_22 : decode prog_45_method_4_code 22 = .ok (.iload_n 1, 1) := by decide +kernel
theorem d1_23 : decode prog_45_method_4_code 23 = .ok (.ireturn, 1) := by decide +kernel
theorem ef_1 (m : MethodId) (xx : Int32) : entryFrame m #[(.int xx)] 2 = mkF m 0 #[.val (.int xx), .unset] [] := by first | (simp [entryFrame, mkF, argsToLocals, Value.category]; done) | rfl
def Q1 (Z : State) (xx : Int32) (h0 : Heap) (n0 : Nat) (v : Option Value) (h : Heap) (L : List Loc) : Prop := v = some (.int (own_w xx)) ∧ Fr n0 L ∧ h = h0
set_option maxRecDepth 65536 in
set_option maxHeartbeats 40000000 in
theorem rm1 (l : Launch) (Z : State) (a0 : Array Value) (hw : ∀ d ∈ tables_1, d.before a0 Z = true) (ws : List Jvm.Cond) (xx : Int32) (h0 : Heap) (n0 : Nat) (Z0 : n0 ≤ h0.size) :
    MetFree l (⟨"com/example/okra/okra/pack/StoredIndex", "width", "(I)I"⟩ : MethodName) (head1 (Jvm.Cond.code (⟨"com/example/okra/okra/pack/StoredIndex", "width", "(I)I"⟩ : MethodName) prog_45_method_4_code 2 (some .int) :: ws) ({ frames := 0, cells := 0, slots := 0, locals := 0 } : Room)) (fun a U => a = #[(.int xx)] ∧ Z.Warmed39 U.vm ∧ U.heap = h0) (fun _ _ _ _ _ => True) (fun _ U o U' => ∃ v L, o = .returned v ∧ Q1 Z xx h0 n0 v U'.heap L ∧ FrameEnd U o U' L ({ frames := 0, cells := 0, slots := 0, locals := 0 } : Room).cells ({ frames := 0, cells := 0, slots := 0, locals := 0 } : Room).slots) := by
  refine MetFree.of_bodySF (plainFor_of_name pn_1) hisR ?_
  intro p e s m args below meth c s₁ Bd hml0 hP hK
  obtain ⟨rfl, hZ, hh⟩ := hP
  have hx := Bd.exec
  have hby := Bd.bytes
  have hml : c.maxLocals = 2 := hml0
  have hown : s.vm.findClass "com/example/okra/okra/pack/StoredIndex" = some m.cls := findClass_of_methodNamed Bd.named
  have hnm := (name_of_methodNamed Bd.named Bd.method).1
  have X0 : Stand p l e ({ frames := 0, cells := 0, slots := 0, locals := 0 } : Room) s m #[(.int xx)] below meth c s₁ [] 0 0 := Stand.of_body Bd
  have e0 : s₁.heap = h0 := by rw [← hh, Bd.state]; rfl
  have N0 := Fr.nil n0
  have pre0 : ∀ t, Steps p.tables e below (s₁.setTop (mkF m 0 #[.val (.int xx), .unset] [])) t → Steps p.tables e below (s₁.setTop (entryFrame m #[(.int xx)] 2)) t := fun t k => castTop (ef_1 m xx) k
  have pre1 : ∀ t, Steps p.tables e below (s₁.setTop (mkF m 13 #[.val (.int xx), .val (.int (1 : Int32))] [(.int (XT.ushr xx ((8 : Int32) * (1 : Int32))))])) t → Steps p.tables e below (s₁.setTop (entryFrame m #[(.int xx)] 2)) t := by
    intro t k
    refine pre0 t ?_
    refine XS.iconst X0.here hx rfl (hb hby d1_0) ?_
    show Steps p.tables e below (s₁.setTop (mkF m 1 #[.val (.int xx), .unset] [(.int (1 : Int32))])) _
    refine XS.istoreN X0.here hx rfl (hb hby d1_1) rfl (l' := #[.val (.int xx), .val (.int (1 : Int32))]) rfl ?_
    show Steps p.tables e below (s₁.setTop (mkF m 2 #[.val (.int xx), .val (.int (1 : Int32))] [])) _
    refine XS.iloadN X0.here hx rfl (hb hby d1_2) rfl ?_
    show Steps p.tables e below (s₁.setTop (mkF m 3 #[.val (.int xx), .val (.int (1 : Int32))] [(.int (1 : Int32))])) _
    refine XS.iconst X0.here hx rfl (hb hby d1_3) ?_
    show Steps p.tables e below (s₁.setTop (mkF m 4 #[.val (.int xx), .val (.int (1 : Int32))] [(.int (4 : Int32)), (.int (1 : Int32))])) _
    refine XS.icmpNo X0.here hx rfl (hb hby d1_4) rfl (XT.ii_ge_f (by decide)) ?_
    show Steps p.tables e below (s₁.setTop (mkF m 7 #[.val (.int xx), .val (.int (1 : Int32))] [])) _
    refine XS.iloadN X0.here hx rfl (hb hby d1_7) rfl ?_
    show Steps p.tables e below (s₁.setTop (mkF m 8 #[.val (.int xx), .val (.int (1 : Int32))] [(.int xx)])) _
    refine XS.bipush X0.here hx rfl (hb hby d1_8) ?_
    show Steps p.tables e below (s₁.setTop (mkF m 10 #[.val (.int xx), .val (.int (1 : Int32))] [(.int (8 : Int32)), (.int xx)])) _
    refine XS.iloadN X0.here hx rfl (hb hby d1_10) rfl ?_
    show Steps p.tables e below (s₁.setTop (mkF m 11 #[.val (.int xx), .val (.int (1 : Int32))] [(.int (1 : Int32)), (.int (8 : Int32)), (.int xx)])) _
    refine XS.imul X0.here hx rfl (hb hby d1_11) rfl ?_
    show Steps p.tables e below (s₁.setTop (mkF m 12 #[.val (.int xx), .val (.int (1 : Int32))] [(.int ((8 : Int32) * (1 : Int32))), (.int xx)])) _
    refine XT.iushr X0.here hx rfl (hb hby d1_12) rfl ?_
    show Steps p.tables e below (s₁.setTop (mkF m 13 #[.val (.int xx), .val (.int (1 : Int32))] [(.int (XT.ushr xx ((8 : Int32) * (1 : Int32))))])) _
    exact k
  by_cases hs1 : (XT.ushr xx ((8 : Int32) * (1 : Int32))) = (0 : Int32)
  · skip
    have pre2 : ∀ t, Steps p.tables e below (s₁.setTop (mkF m 23 #[.val (.int xx), .val (.int (1 : Int32))] [(.int (1 : Int32))])) t → Steps p.tables e below (s₁.setTop (entryFrame m #[(.int xx)] 2)) t := by
      intro t k
      refine pre1 t ?_
      refine XS.ifYes X0.here hx rfl (pc0 := 13) (pc' := 22) rfl (hb hby d1_13) rfl (XT.i0_eq_t hs1) (by decide) (by decide) ?_
      show Steps p.tables e below (s₁.setTop (mkF m 22 #[.val (.int xx), .val (.int (1 : Int32))] [])) _
      refine XS.iloadN X0.here hx rfl (hb hby d1_22) rfl ?_
      show Steps p.tables e below (s₁.setTop (mkF m 23 #[.val (.int xx), .val (.int (1 : Int32))] [(.int (1 : Int32))])) _
      exact k
    obtain ⟨fs, hr, hrun, hended, hW, hsame⟩ := X0.leave (v := some (.int (1 : Int32))) (fun h => by rw [Bd.returns] at h; cases h)
    refine ⟨_, _, pre2 _ ?_, hrun, hended, _, _, rfl, ?_, ⟨_, rfl⟩, hW, hsame.mono (by decide) (by decide)⟩
    · exact retOut X0 hx Bd.returns rfl (Or.inl ⟨rfl, by simp, _, rfl⟩) (hb hby d1_23) hr
    · show Q1 Z xx h0 n0 _ s₁.heap _
      rw [e0]
      exact ⟨(by rw [own_w, if_pos hs1]), N0, rfl⟩
  · skip
    have pre4 : ∀ t, Steps p.tables e below (s₁.setTop (mkF m 13 #[.val (.int xx), .val (.int ((1 : Int32) + (1 : Int32)))] [(.int (XT.ushr xx ((8 : Int32) * ((1 : Int32) + (1 : Int32)))))])) t → Steps p.tables e below (s₁.setTop (entryFrame m #[(.int xx)] 2)) t := by
      intro t k
      refine pre1 t ?_
      refine XS.ifNo X0.here hx rfl (hb hby d1_13) rfl (XT.i0_eq_f hs1) ?_
      show Steps p.tables e below (s₁.setTop (mkF m 16 #[.val (.int xx), .val (.int (1 : Int32))] [])) _
      refine XS.iinc X0.here hx rfl (hb hby d1_16) rfl (l' := #[.val (.int xx), .val (.int ((1 : Int32) + (1 : Int32)))]) rfl ?_
      show Steps p.tables e below (s₁.setTop (mkF m 19 #[.val (.int xx), .val (.int ((1 : Int32) + (1 : Int32)))] [])) _
      refine XS.goto X0.here hx rfl (pc0 := 19) (pc' := 2) rfl (hb hby d1_19) (by decide) (by decide) ?_
      show Steps p.tables e below (s₁.setTop (mkF m 2 #[.val (.int xx), .val (.int ((1 : Int32) + (1 : Int32)))] [])) _
      refine XS.iloadN X0.here hx rfl (hb hby d1_2) rfl ?_
      show Steps p.tables e below (s₁.setTop (mkF m 3 #[.val (.int xx), .val (.int ((1 : Int32) + (1 : Int32)))] [(.int ((1 : Int32) + (1 : Int32)))])) _
      refine XS.iconst X0.here hx rfl (hb hby d1_3) ?_
      show Steps p.tables e below (s₁.setTop (mkF m 4 #[.val (.int xx), .val (.int ((1 : Int32) + (1 : Int32)))] [(.int (4 : Int32)), (.int ((1 : Int32) + (1 : Int32)))])) _
      refine XS.icmpNo X0.here hx rfl (hb hby d1_4) rfl (XT.ii_ge_f (by decide)) ?_
      show Steps p.tables e below (s₁.setTop (mkF m 7 #[.val (.int xx), .val (.int ((1 : Int32) + (1 : Int32)))] [])) _
      refine XS.iloadN X0.here hx rfl (hb hby d1_7) rfl ?_
      show Steps p.tables e below (s₁.setTop (mkF m 8 #[.val (.int xx), .val (.int ((1 : Int32) + (1 : Int32)))] [(.int xx)])) _
      refine XS.bipush X0.here hx rfl (hb hby d1_8) ?_
      show Steps p.tables e below (s₁.setTop (mkF m 10 #[.val (.int xx), .val (.int ((1 : Int32) + (1 : Int32)))] [(.int (8 : Int32)), (.int xx)])) _
      refine XS.iloadN X0.here hx rfl (hb hby d1_10) rfl ?_
      show Steps p.tables e below (s₁.setTop (mkF m 11 #[.val (.int xx), .val (.int ((1 : Int32) + (1 : Int32)))] [(.int ((1 : Int32) + (1 : Int32))), (.int (8 : Int32)), (.int xx)])) _
      refine XS.imul X0.here hx rfl (hb hby d1_11) rfl ?_
      show Steps p.tables e below (s₁.setTop (mkF m 12 #[.val (.int xx), .val (.int ((1 : Int32) + (1 : Int32)))] [(.int ((8 : Int32) * ((1 : Int32) + (1 : Int32)))), (.int xx)])) _
      refine XT.iushr X0.here hx rfl (hb hby d1_12) rfl ?_
      show Steps p.tables e below (s₁.setTop (mkF m 13 #[.val (.int xx), .val (.int ((1 : Int32) + (1 : Int32)))] [(.int (XT.ushr xx ((8 : Int32) * ((1 : Int32) + (1 : Int32)))))])) _
      exact k
    by_cases hs2 : (XT.ushr xx ((8 : Int32) * ((1 : Int32) + (1 : Int32)))) = (0 : Int32)
    · skip
      have pre5 : ∀ t, Steps p.tables e below (s₁.setTop (mkF m 23 #[.val (.int xx), .val (.int ((1 : Int32) + (1 : Int32)))] [(.int ((1 : Int32) + (1 : Int32)))])) t → Steps p.tables e below (s₁.setTop (entryFrame m #[(.int xx)] 2)) t := by
        intro t k
        refine pre4 t ?_
        refine XS.ifYes X0.here hx rfl (pc0 := 13) (pc' := 22) rfl (hb hby d1_13) rfl (XT.i0_eq_t hs2) (by decide) (by decide) ?_
        show Steps p.tables e below (s₁.setTop (mkF m 22 #[.val (.int xx), .val (.int ((1 : Int32) + (1 : Int32)))] [])) _
        refine XS.iloadN X0.here hx rfl (hb hby d1_22) rfl ?_
        show Steps p.tables e below (s₁.setTop (mkF m 23 #[.val (.int xx), .val (.int ((1 : Int32) + (1 : Int32)))] [(.int ((1 : Int32) + (1 : Int32)))])) _
        exact k
      obtain ⟨fs, hr, hrun, hended, hW, hsame⟩ := X0.leave (v := some (.int ((1 : Int32) + (1 : Int32)))) (fun h => by rw [Bd.returns] at h; cases h)
      refine ⟨_, _, pre5 _ ?_, hrun, hended, _, _, rfl, ?_, ⟨_, rfl⟩, hW, hsame.mono (by decide) (by decide)⟩
      · exact retOut X0 hx Bd.returns rfl (Or.inl ⟨rfl, by simp, _, rfl⟩) (hb hby d1_23) hr
      · show Q1 Z xx h0 n0 _ s₁.heap _
        rw [e0]
        exact ⟨(by rw [own_w, if_neg hs1, if_pos hs2]), N0, rfl⟩
    · skip
      have pre7 : ∀ t, Steps p.tables e below (s₁.setTop (mkF m 13 #[.val (.int xx), .val (.int (((1 : Int32) + (1 : Int32)) + (1 : Int32)))] [(.int (XT.ushr xx ((8 : Int32) * (((1 : Int32) + (1 : Int32)) + (1 : Int32)))))])) t → Steps p.tables e below (s₁.setTop (entryFrame m #[(.int xx)] 2)) t := by
        intro t k
        refine pre4 t ?_
        refine XS.ifNo X0.here hx rfl (hb hby d1_13) rfl (XT.i0_eq_f hs2) ?_
        show Steps p.tables e below (s₁.setTop (mkF m 16 #[.val (.int xx), .val (.int ((1 : Int32) + (1 : Int32)))] [])) _
        refine XS.iinc X0.here hx rfl (hb hby d1_16) rfl (l' := #[.val (.int xx), .val (.int (((1 : Int32) + (1 : Int32)) + (1 : Int32)))]) rfl ?_
        show Steps p.tables e below (s₁.setTop (mkF m 19 #[.val (.int xx), .val (.int (((1 : Int32) + (1 : Int32)) + (1 : Int32)))] [])) _
        refine XS.goto X0.here hx rfl (pc0 := 19) (pc' := 2) rfl (hb hby d1_19) (by decide) (by decide) ?_
        show Steps p.tables e below (s₁.setTop (mkF m 2 #[.val (.int xx), .val (.int (((1 : Int32) + (1 : Int32)) + (1 : Int32)))] [])) _
        refine XS.iloadN X0.here hx rfl (hb hby d1_2) rfl ?_
        show Steps p.tables e below (s₁.setTop (mkF m 3 #[.val (.int xx), .val (.int (((1 : Int32) + (1 : Int32)) + (1 : Int32)))] [(.int (((1 : Int32) + (1 : Int32)) + (1 : Int32)))])) _
        refine XS.iconst X0.here hx rfl (hb hby d1_3) ?_
        show Steps p.tables e below (s₁.setTop (mkF m 4 #[.val (.int xx), .val (.int (((1 : Int32) + (1 : Int32)) + (1 : Int32)))] [(.int (4 : Int32)), (.int (((1 : Int32) + (1 : Int32)) + (1 : Int32)))])) _
        refine XS.icmpNo X0.here hx rfl (hb hby d1_4) rfl (XT.ii_ge_f (by decide)) ?_
        show Steps p.tables e below (s₁.setTop (mkF m 7 #[.val (.int xx), .val (.int (((1 : Int32) + (1 : Int32)) + (1 : Int32)))] [])) _
        refine XS.iloadN X0.here hx rfl (hb hby d1_7) rfl ?_
        show Steps p.tables e below (s₁.setTop (mkF m 8 #[.val (.int xx), .val (.int (((1 : Int32) + (1 : Int32)) + (1 : Int32)))] [(.int xx)])) _
        refine XS.bipush X0.here hx rfl (hb hby d1_8) ?_
        show Steps p.tables e below (s₁.setTop (mkF m 10 #[.val (.int xx), .val (.int (((1 : Int32) + (1 : Int32)) + (1 : Int32)))] [(.int (8 : Int32)), (.int xx)])) _
        refine XS.iloadN X0.here hx rfl (hb hby d1_10) rfl ?_
        show Steps p.tables e below (s₁.setTop (mkF m 11 #[.val (.int xx), .val (.int (((1 : Int32) + (1 : Int32)) + (1 : Int32)))] [(.int (((1 : Int32) + (1 : Int32)) + (1 : Int32))), (.int (8 : Int32)), (.int xx)])) _
        refine XS.imul X0.here hx rfl (hb hby d1_11) rfl ?_
        show Steps p.tables e below (s₁.setTop (mkF m 12 #[.val (.int xx), .val (.int (((1 : Int32) + (1 : Int32)) + (1 : Int32)))] [(.int ((8 : Int32) * (((1 : Int32) + (1 : Int32)) + (1 : Int32)))), (.int xx)])) _
        refine XT.iushr X0.here hx rfl (hb hby d1_12) rfl ?_
        show Steps p.tables e below (s₁.setTop (mkF m 13 #[.val (.int xx), .val (.int (((1 : Int32) + (1 : Int32)) + (1 : Int32)))] [(.int (XT.ushr xx ((8 : Int32) * (((1 : Int32) + (1 : Int32)) + (1 : Int32)))))])) _
        exact k
      by_cases hs3 : (XT.ushr xx ((8 : Int32) * (((1 : Int32) + (1 : Int32)) + (1 : Int32)))) = (0 : Int32)
      · skip
        have pre8 : ∀ t, Steps p.tables e below (s₁.setTop (mkF m 23 #[.val (.int xx), .val (.int (((1 : Int32) + (1 : Int32)) + (1 : Int32)))] [(.int (((1 : Int32) + (1 : Int32)) + (1 : Int32)))])) t → Steps p.tables e below (s₁.setTop (entryFrame m #[(.int xx)] 2)) t := by
          intro t k
          refine pre7 t ?_
          refine XS.ifYes X0.here hx rfl (pc0 := 13) (pc' := 22) rfl (hb hby d1_13) rfl (XT.i0_eq_t hs3) (by decide) (by decide) ?_
          show Steps p.tables e below (s₁.setTop (mkF m 22 #[.val (.int xx), .val (.int (((1 : Int32) + (1 : Int32)) + (1 : Int32)))] [])) _
          refine XS.iloadN X0.here hx rfl (hb hby d1_22) rfl ?_
          show Steps p.tables e below (s₁.setTop (mkF m 23 #[.val (.int xx), .val (.int (((1 : Int32) + (1 : Int32)) + (1 : Int32)))] [(.int (((1 : Int32) + (1 : Int32)) + (1 : Int32)))])) _
          exact k
        obtain ⟨fs, hr, hrun, hended, hW, hsame⟩ := X0.leave (v := some (.int (((1 : Int32) + (1 : Int32)) + (1 : Int32)))) (fun h => by rw [Bd.returns] at h; cases h)
        refine ⟨_, _, pre8 _ ?_, hrun, hended, _, _, rfl, ?_, ⟨_, rfl⟩, hW, hsame.mono (by decide) (by decide)⟩
        · exact retOut X0 hx Bd.returns rfl (Or.inl ⟨rfl, by simp, _, rfl⟩) (hb hby d1_23) hr
        · show Q1 Z xx h0 n0 _ s₁.heap _
          rw [e0]
          exact ⟨(by rw [own_w, if_neg hs1, if_neg hs2, if_pos hs3]), N0, rfl⟩
      · skip
        have pre10 : ∀ t, Steps p.tables e below (s₁.setTop (mkF m 23 #[.val (.int xx), .val (.int ((((1 : Int32) + (1 : Int32)) + (1 : Int32)) + (1 : Int32)))] [(.int ((((1 : Int32) + (1 : Int32)) + (1 : Int32)) + (1 : Int32)))])) t → Steps p.tables e below (s₁.setTop (entryFrame m #[(.int xx)] 2)) t := by
          intro t k
          refine pre7 t ?_
          refine XS.ifNo X0.here hx rfl (hb hby d1_13) rfl (XT.i0_eq_f hs3) ?_
          show Steps p.tables e below (s₁.setTop (mkF m 16 #[.val (.int xx), .val (.int (((1 : Int32) + (1 : Int32)) + (1 : Int32)))] [])) _
          refine XS.iinc X0.here hx rfl (hb hby d1_16) rfl (l' := #[.val (.int xx), .val (.int ((((1 : Int32) + (1 : Int32)) + (1 : Int32)) + (1 : Int32)))]) rfl ?_
          show Steps p.tables e below (s₁.setTop (mkF m 19 #[.val (.int xx), .val (.int ((((1 : Int32) + (1 : Int32)) + (1 : Int32)) + (1 : Int32)))] [])) _
          refine XS.goto X0.here hx rfl (pc0 := 19) (pc' := 2) rfl (hb hby d1_19) (by decide) (by decide) ?_
          show Steps p.tables e below (s₁.setTop (mkF m 2 #[.val (.int xx), .val (.int ((((1 : Int32) + (1 : Int32)) + (1 : Int32)) + (1 : Int32)))] [])) _
          refine XS.iloadN X0.here hx rfl (hb hby d1_2) rfl ?_
          show Steps p.tables e below (s₁.setTop (mkF m 3 #[.val (.int xx), .val (.int ((((1 : Int32) + (1 : Int32)) + (1 : Int32)) + (1 : Int32)))] [(.int ((((1 : Int32) + (1 : Int32)) + (1 : Int32)) + (1 : Int32)))])) _
          refine XS.iconst X0.here hx rfl (hb hby d1_3) ?_
          show Steps p.tables e below (s₁.setTop (mkF m 4 #[.val (.int xx), .val (.int ((((1 : Int32) + (1 : Int32)) + (1 : Int32)) + (1 : Int32)))] [(.int (4 : Int32)), (.int ((((1 : Int32) + (1 : Int32)) + (1 : Int32)) + (1 : Int32)))])) _
          refine XS.icmpYes X0.here hx rfl (pc0 := 4) (pc' := 22) rfl (hb hby d1_4) rfl (XT.ii_ge_t (by decide)) (by decide) (by decide) ?_
          show Steps p.tables e below (s₁.setTop (mkF m 22 #[.val (.int xx), .val (.int ((((1 : Int32) + (1 : Int32)) + (1 : Int32)) + (1 : Int32)))] [])) _
          refine XS.iloadN X0.here hx rfl (hb hby d1_22) rfl ?_
          show Steps p.tables e below (s₁.setTop (mkF m 23 #[.val (.int xx), .val (.int ((((1 : Int32) + (1 : Int32)) + (1 : Int32)) + (1 : Int32)))] [(.int ((((1 : Int32) + (1 : Int32)) + (1 : Int32)) + (1 : Int32)))])) _
          exact k
        obtain ⟨fs, hr, hrun, hended, hW, hsame⟩ := X0.leave (v := some (.int ((((1 : Int32) + (1 : Int32)) + (1 : Int32)) + (1 : Int32)))) (fun h => by rw [Bd.returns] at h; cases h)
        refine ⟨_, _, pre10 _ ?_, hrun, hended, _, _, rfl, ?_, ⟨_, rfl⟩, hW, hsame.mono (by decide) (by decide)⟩
        · exact retOut X0 hx Bd.returns rfl (Or.inl ⟨rfl, by simp, _, rfl⟩) (hb hby d1_23) hr
        · show Q1 Z xx h0 n0 _ s₁.heap _
          rw [e0]
          exact ⟨(by rw [own_w, if_neg hs1, if_neg hs2, if_neg hs3]), N0, rfl⟩
theorem pn_2 : plainName "com/example/okra/okra/pack/StoredIndexWidthPinLaw" = true := by first | (simp [plainName, overriddenIn]; done) | decide +kernel
theorem d2_0 : decode method_2_code 0 = .ok (.iload_n 0, 1) := by decide +kernel
theorem d2_1 : decode method_2_code 1 = .ok (.i2l, 1) := by decide +kernel
theorem d2_2 : decode method_2_code 2 = .ok (.ldc2_w 7, 3) := by decide +kernel
theorem d2_5 : decode method_2_code 5 = .ok (.land, 1) := by decide +kernel
theorem d2_6 : decode method_2_code 6 = .ok (.lstore_n 1, 1) := by decide +kernel
theorem d2_7 : decode method_2_code 7 = .ok (.lload_n 1, 1) := by decide +kernel
theorem d2_8 : decode method_2_code 8 = .ok (.ldc2_w 9, 3) := by decide +kernel
theorem d2_11 : decode method_2_code 11 = .ok (.lcmp, 1) := by decide +kernel
theorem d2_12 : decode method_2_code 12 = .ok (.ifCond .ge 5, 3) := by decide +kernel
theorem d2_15 : decode method_2_code 15 = .ok (.iconst 1, 1) := by decide +kernel
theorem d2_16 : decode method_2_code 16 = .ok (.ireturn, 1) := by decide +kernel
theorem d2_17 : decode method_2_code 17 = .ok (.lload_n 1, 1) := by decide +kernel
theorem d2_18 : decode method_2_code 18 = .ok (.ldc2_w 11, 3) := by decide +kernel
theorem d2_21 : decode method_2_code 21 = .ok (.lcmp, 1) := by decide +kernel
theorem d2_22 : decode method_2_code 22 = .ok (.ifCond .ge 5, 3) := by decide +kernel
theorem d2_25 : decode method_2_code 25 = .ok (.iconst 2, 1) := by decide +kernel
theorem d2_26 : decode method_2_code 26 = .ok (.ireturn, 1) := by decide +kernel
theorem d2_27 : decode method_2_code 27 = .ok (.lload_n 1, 1) := by decide +kernel
theorem d2_28 : decode method_2_code 28 = .ok (.ldc2_w 13, 3) := by decide +kernel
theorem d2_31 : decode method_2_code 31 = .ok (.lcmp, 1) := by decide +kernel
theorem d2_32 : decode method_2_code 32 = .ok (.ifCond .ge 5, 3) := by decide +kernel
theorem d2_35 : decode method_2_code 35 = .ok (.iconst 3, 1) := by decide +kernel
theorem d2_36 : decode method_2_code 36 = .ok (.ireturn, 1) := by decide +kernel
theorem d2_37 : decode method_2_code 37 = .ok (.iconst 4, 1) := by decide +kernel
theorem d2_38 : decode method_2_code 38 = .ok (.ireturn, 1) := by decide +kernel
theorem ef_2 (m : MethodId) (xx : Int32) : entryFrame m #[(.int xx)] 3 = mkF m 0 #[.val (.int xx), .unset, .unset] [] := by first | (simp [entryFrame, mkF, argsToLocals, Value.category]; done) | rfl
def Q2 (Z : State) (xx : Int32) (h0 : Heap) (n0 : Nat) (v : Option Value) (h : Heap) (L : List Loc) : Prop := v = some (.int (own_e xx)) ∧ Fr n0 L ∧ h = h0
set_option maxRecDepth 65536 in
set_option maxHeartbeats 40000000 in
theorem rm2 (l : Launch) (Z : State) (a0 : Array Value) (hw : ∀ d ∈ tables_1, d.before a0 Z = true) (ws : List Jvm.Cond) (xx : Int32) (h0 : Heap) (n0 : Nat) (Z0 : n0 ≤ h0.size) :
    MetFree l (⟨"com/example/okra/okra/pack/StoredIndexWidthPinLaw", "expected", "(I)I"⟩ : MethodName) (head1 (Jvm.Cond.code (⟨"com/example/okra/okra/pack/StoredIndexWidthPinLaw", "expected", "(I)I"⟩ : MethodName) method_2_code 3 (some .int) :: ws) ({ frames := 0, cells := 0, slots := 0, locals := 0 } : Room)) (fun a U => a = #[(.int xx)] ∧ Z.Warmed39 U.vm ∧ U.heap = h0) (fun _ _ _ _ _ => True) (fun _ U o U' => ∃ v L, o = .returned v ∧ Q2 Z xx h0 n0 v U'.heap L ∧ FrameEnd U o U' L ({ frames := 0, cells := 0, slots := 0, locals := 0 } : Room).cells ({ frames := 0, cells := 0, slots := 0, locals := 0 } : Room).slots) := by
  refine MetFree.of_bodySF (plainFor_of_name pn_2) hisR ?_
  intro p e s m args below meth c s₁ Bd hml0 hP hK
  obtain ⟨rfl, hZ, hh⟩ := hP
  have hx := Bd.exec
  have hby := Bd.bytes
  have hml : c.maxLocals = 3 := hml0
  have hown : s.vm.findClass "com/example/okra/okra/pack/StoredIndexWidthPinLaw" = some m.cls := findClass_of_methodNamed Bd.named
  have hnm := (name_of_methodNamed Bd.named Bd.method).1
  have X0 : Stand p l e ({ frames := 0, cells := 0, slots := 0, locals := 0 } : Room) s m #[(.int xx)] below meth c s₁ [] 0 0 := Stand.of_body Bd
  have e0 : s₁.heap = h0 := by rw [← hh, Bd.state]; rfl
  have N0 := Fr.nil n0
  have pre0 : ∀ t, Steps p.tables e below (s₁.setTop (mkF m 0 #[.val (.int xx), .unset, .unset] [])) t → Steps p.tables e below (s₁.setTop (entryFrame m #[(.int xx)] 3)) t := fun t k => castTop (ef_2 m xx) k
  have pre1 : ∀ t, Steps p.tables e below (s₁.setTop (mkF m 12 #[.val (.int xx), .val (.long ((xx.toInt64) &&& (4294967295 : Int64))), .second] [(.int (XT.cmpL ((xx.toInt64) &&& (4294967295 : Int64)) (256 : Int64)))])) t → Steps p.tables e below (s₁.setTop (entryFrame m #[(.int xx)] 3)) t := by
    intro t k
    refine pre0 t ?_
    refine XS.iloadN X0.here hx rfl (hb hby d2_0) rfl ?_
    show Steps p.tables e below (s₁.setTop (mkF m 1 #[.val (.int xx), .unset, .unset] [(.int xx)])) _
    refine XT.i2l X0.here hx rfl (hb hby d2_1) rfl ?_
    show Steps p.tables e below (s₁.setTop (mkF m 2 #[.val (.int xx), .unset, .unset] [(.long (xx.toInt64))])) _
    refine Stand.ldc2J X0 hx hown (mvT hZ (hw _ (List.mem_of_getElem? (i := 8) rfl))) rfl (hb hby d2_2) ?_
    show Steps p.tables e below (s₁.setTop (mkF m 5 #[.val (.int xx), .unset, .unset] [(.long (4294967295 : Int64)), (.long (xx.toInt64))])) _
    refine XT.land X0.here hx rfl (hb hby d2_5) rfl ?_
    show Steps p.tables e below (s₁.setTop (mkF m 6 #[.val (.int xx), .unset, .unset] [(.long ((xx.toInt64) &&& (4294967295 : Int64)))])) _
    refine XT.lstoreN X0.here hx rfl (hb hby d2_6) rfl (l' := #[.val (.int xx), .val (.long ((xx.toInt64) &&& (4294967295 : Int64))), .second]) rfl ?_
    show Steps p.tables e below (s₁.setTop (mkF m 7 #[.val (.int xx), .val (.long ((xx.toInt64) &&& (4294967295 : Int64))), .second] [])) _
    refine XT.lloadN X0.here hx rfl (hb hby d2_7) rfl ?_
    show Steps p.tables e below (s₁.setTop (mkF m 8 #[.val (.int xx), .val (.long ((xx.toInt64) &&& (4294967295 : Int64))), .second] [(.long ((xx.toInt64) &&& (4294967295 : Int64)))])) _
    refine Stand.ldc2J X0 hx hown (mvT hZ (hw _ (List.mem_of_getElem? (i := 9) rfl))) rfl (hb hby d2_8) ?_
    show Steps p.tables e below (s₁.setTop (mkF m 11 #[.val (.int xx), .val (.long ((xx.toInt64) &&& (4294967295 : Int64))), .second] [(.long (256 : Int64)), (.long ((xx.toInt64) &&& (4294967295 : Int64)))])) _
    refine XT.lcmp X0.here hx rfl (hb hby d2_11) rfl ?_
    show Steps p.tables e below (s₁.setTop (mkF m 12 #[.val (.int xx), .val (.long ((xx.toInt64) &&& (4294967295 : Int64))), .second] [(.int (XT.cmpL ((xx.toInt64) &&& (4294967295 : Int64)) (256 : Int64)))])) _
    exact k
  by_cases hs1 : ((xx.toInt64) &&& (4294967295 : Int64)) < (256 : Int64)
  · skip
    have pre2 : ∀ t, Steps p.tables e below (s₁.setTop (mkF m 16 #[.val (.int xx), .val (.long ((xx.toInt64) &&& (4294967295 : Int64))), .second] [(.int (1 : Int32))])) t → Steps p.tables e below (s₁.setTop (entryFrame m #[(.int xx)] 3)) t := by
      intro t k
      refine pre1 t ?_
      refine XS.ifNo X0.here hx rfl (hb hby d2_12) rfl (XT.ll_ge_f hs1) ?_
      show Steps p.tables e below (s₁.setTop (mkF m 15 #[.val (.int xx), .val (.long ((xx.toInt64) &&& (4294967295 : Int64))), .second] [])) _
      refine XS.iconst X0.here hx rfl (hb hby d2_15) ?_
      show Steps p.tables e below (s₁.setTop (mkF m 16 #[.val (.int xx), .val (.long ((xx.toInt64) &&& (4294967295 : Int64))), .second] [(.int (1 : Int32))])) _
      exact k
    obtain ⟨fs, hr, hrun, hended, hW, hsame⟩ := X0.leave (v := some (.int (1 : Int32))) (fun h => by rw [Bd.returns] at h; cases h)
    refine ⟨_, _, pre2 _ ?_, hrun, hended, _, _, rfl, ?_, ⟨_, rfl⟩, hW, hsame.mono (by decide) (by decide)⟩
    · exact retOut X0 hx Bd.returns rfl (Or.inl ⟨rfl, by simp, _, rfl⟩) (hb hby d2_16) hr
    · show Q2 Z xx h0 n0 _ s₁.heap _
      rw [e0]
      exact ⟨(by rw [own_e, if_pos hs1]), N0, rfl⟩
  · skip
    have pre4 : ∀ t, Steps p.tables e below (s₁.setTop (mkF m 22 #[.val (.int xx), .val (.long ((xx.toInt64) &&& (4294967295 : Int64))), .second] [(.int (XT.cmpL ((xx.toInt64) &&& (4294967295 : Int64)) (65536 : Int64)))])) t → Steps p.tables e below (s₁.setTop (entryFrame m #[(.int xx)] 3)) t := by
      intro t k
      refine pre1 t ?_
      refine XS.ifYes X0.here hx rfl (pc0 := 12) (pc' := 17) rfl (hb hby d2_12) rfl (XT.ll_ge_t hs1) (by decide) (by decide) ?_
      show Steps p.tables e below (s₁.setTop (mkF m 17 #[.val (.int xx), .val (.long ((xx.toInt64) &&& (4294967295 : Int64))), .second] [])) _
      refine XT.lloadN X0.here hx rfl (hb hby d2_17) rfl ?_
      show Steps p.tables e below (s₁.setTop (mkF m 18 #[.val (.int xx), .val (.long ((xx.toInt64) &&& (4294967295 : Int64))), .second] [(.long ((xx.toInt64) &&& (4294967295 : Int64)))])) _
      refine Stand.ldc2J X0 hx hown (mvT hZ (hw _ (List.mem_of_getElem? (i := 10) rfl))) rfl (hb hby d2_18) ?_
      show Steps p.tables e below (s₁.setTop (mkF m 21 #[.val (.int xx), .val (.long ((xx.toInt64) &&& (4294967295 : Int64))), .second] [(.long (65536 : Int64)), (.long ((xx.toInt64) &&& (4294967295 : Int64)))])) _
      refine XT.lcmp X0.here hx rfl (hb hby d2_21) rfl ?_
      show Steps p.tables e below (s₁.setTop (mkF m 22 #[.val (.int xx), .val (.long ((xx.toInt64) &&& (4294967295 : Int64))), .second] [(.int (XT.cmpL ((xx.toInt64) &&& (4294967295 : Int64)) (65536 : Int64)))])) _
      exact k
    by_cases hs2 : ((xx.toInt64) &&& (4294967295 : Int64)) < (65536 : Int64)
    · skip
      have pre5 : ∀ t, Steps p.tables e below (s₁.setTop (mkF m 26 #[.val (.int xx), .val (.long ((xx.toInt64) &&& (4294967295 : Int64))), .second] [(.int (2 : Int32))])) t → Steps p.tables e below (s₁.setTop (entryFrame m #[(.int xx)] 3)) t := by
        intro t k
        refine pre4 t ?_
        refine XS.ifNo X0.here hx rfl (hb hby d2_22) rfl (XT.ll_ge_f hs2) ?_
        show Steps p.tables e below (s₁.setTop (mkF m 25 #[.val (.int xx), .val (.long ((xx.toInt64) &&& (4294967295 : Int64))), .second] [])) _
        refine XS.iconst X0.here hx rfl (hb hby d2_25) ?_
        show Steps p.tables e below (s₁.setTop (mkF m 26 #[.val (.int xx), .val (.long ((xx.toInt64) &&& (4294967295 : Int64))), .second] [(.int (2 : Int32))])) _
        exact k
      obtain ⟨fs, hr, hrun, hended, hW, hsame⟩ := X0.leave (v := some (.int (2 : Int32))) (fun h => by rw [Bd.returns] at h; cases h)
      refine ⟨_, _, pre5 _ ?_, hrun, hended, _, _, rfl, ?_, ⟨_, rfl⟩, hW, hsame.mono (by decide) (by decide)⟩
      · exact retOut X0 hx Bd.returns rfl (Or.inl ⟨rfl, by simp, _, rfl⟩) (hb hby d2_26) hr
      · show Q2 Z xx h0 n0 _ s₁.heap _
        rw [e0]
        exact ⟨(by rw [own_e, if_neg hs1, if_pos hs2]), N0, rfl⟩
    · skip
      have pre7 : ∀ t, Steps p.tables e below (s₁.setTop (mkF m 32 #[.val (.int xx), .val (.long ((xx.toInt64) &&& (4294967295 : Int64))), .second] [(.int (XT.cmpL ((xx.toInt64) &&& (4294967295 : Int64)) (16777216 : Int64)))])) t → Steps p.tables e below (s₁.setTop (entryFrame m #[(.int xx)] 3)) t := by
        intro t k
        refine pre4 t ?_
        refine XS.ifYes X0.here hx rfl (pc0 := 22) (pc' := 27) rfl (hb hby d2_22) rfl (XT.ll_ge_t hs2) (by decide) (by decide) ?_
        show Steps p.tables e below (s₁.setTop (mkF m 27 #[.val (.int xx), .val (.long ((xx.toInt64) &&& (4294967295 : Int64))), .second] [])) _
        refine XT.lloadN X0.here hx rfl (hb hby d2_27) rfl ?_
        show Steps p.tables e below (s₁.setTop (mkF m 28 #[.val (.int xx), .val (.long ((xx.toInt64) &&& (4294967295 : Int64))), .second] [(.long ((xx.toInt64) &&& (4294967295 : Int64)))])) _
        refine Stand.ldc2J X0 hx hown (mvT hZ (hw _ (List.mem_of_getElem? (i := 11) rfl))) rfl (hb hby d2_28) ?_
        show Steps p.tables e below (s₁.setTop (mkF m 31 #[.val (.int xx), .val (.long ((xx.toInt64) &&& (4294967295 : Int64))), .second] [(.long (16777216 : Int64)), (.long ((xx.toInt64) &&& (4294967295 : Int64)))])) _
        refine XT.lcmp X0.here hx rfl (hb hby d2_31) rfl ?_
        show Steps p.tables e below (s₁.setTop (mkF m 32 #[.val (.int xx), .val (.long ((xx.toInt64) &&& (4294967295 : Int64))), .second] [(.int (XT.cmpL ((xx.toInt64) &&& (4294967295 : Int64)) (16777216 : Int64)))])) _
        exact k
      by_cases hs3 : ((xx.toInt64) &&& (4294967295 : Int64)) < (16777216 : Int64)
      · skip
        have pre8 : ∀ t, Steps p.tables e below (s₁.setTop (mkF m 36 #[.val (.int xx), .val (.long ((xx.toInt64) &&& (4294967295 : Int64))), .second] [(.int (3 : Int32))])) t → Steps p.tables e below (s₁.setTop (entryFrame m #[(.int xx)] 3)) t := by
          intro t k
          refine pre7 t ?_
          refine XS.ifNo X0.here hx rfl (hb hby d2_32) rfl (XT.ll_ge_f hs3) ?_
          show Steps p.tables e below (s₁.setTop (mkF m 35 #[.val (.int xx), .val (.long ((xx.toInt64) &&& (4294967295 : Int64))), .second] [])) _
          refine XS.iconst X0.here hx rfl (hb hby d2_35) ?_
          show Steps p.tables e below (s₁.setTop (mkF m 36 #[.val (.int xx), .val (.long ((xx.toInt64) &&& (4294967295 : Int64))), .second] [(.int (3 : Int32))])) _
          exact k
        obtain ⟨fs, hr, hrun, hended, hW, hsame⟩ := X0.leave (v := some (.int (3 : Int32))) (fun h => by rw [Bd.returns] at h; cases h)
        refine ⟨_, _, pre8 _ ?_, hrun, hended, _, _, rfl, ?_, ⟨_, rfl⟩, hW, hsame.mono (by decide) (by decide)⟩
        · exact retOut X0 hx Bd.returns rfl (Or.inl ⟨rfl, by simp, _, rfl⟩) (hb hby d2_36) hr
        · show Q2 Z xx h0 n0 _ s₁.heap _
          rw [e0]
          exact ⟨(by rw [own_e, if_neg hs1, if_neg hs2, if_pos hs3]), N0, rfl⟩
      · skip
        have pre10 : ∀ t, Steps p.tables e below (s₁.setTop (mkF m 38 #[.val (.int xx), .val (.long ((xx.toInt64) &&& (4294967295 : Int64))), .second] [(.int (4 : Int32))])) t → Steps p.tables e below (s₁.setTop (entryFrame m #[(.int xx)] 3)) t := by
          intro t k
          refine pre7 t ?_
          refine XS.ifYes X0.here hx rfl (pc0 := 32) (pc' := 37) rfl (hb hby d2_32) rfl (XT.ll_ge_t hs3) (by decide) (by decide) ?_
          show Steps p.tables e below (s₁.setTop (mkF m 37 #[.val (.int xx), .val (.long ((xx.toInt64) &&& (4294967295 : Int64))), .second] [])) _
          refine XS.iconst X0.here hx rfl (hb hby d2_37) ?_
          show Steps p.tables e below (s₁.setTop (mkF m 38 #[.val (.int xx), .val (.long ((xx.toInt64) &&& (4294967295 : Int64))), .second] [(.int (4 : Int32))])) _
          exact k
        obtain ⟨fs, hr, hrun, hended, hW, hsame⟩ := X0.leave (v := some (.int (4 : Int32))) (fun h => by rw [Bd.returns] at h; cases h)
        refine ⟨_, _, pre10 _ ?_, hrun, hended, _, _, rfl, ?_, ⟨_, rfl⟩, hW, hsame.mono (by decide) (by decide)⟩
        · exact retOut X0 hx Bd.returns rfl (Or.inl ⟨rfl, by simp, _, rfl⟩) (hb hby d2_38) hr
        · show Q2 Z xx h0 n0 _ s₁.heap _
          rw [e0]
          exact ⟨(by rw [own_e, if_neg hs1, if_neg hs2, if_neg hs3]), N0, rfl⟩
theorem pd_s : parseMethodDescriptor "(I)I" = some ⟨[.int], some .int⟩ := by decide +kernel
theorem pn_law : plainName "com/example/okra/okra/pack/StoredIndexWidthPinLaw" = true := by first | (simp [plainName, overriddenIn]; done) | decide +kernel
theorem ef_law (m : MethodId) (x0 : Int32) (y0 : Int32) : entryFrame m #[(.int x0), (.int y0)] maxLocals = mkF m 0 #[.val (.int x0), .val (.int y0), .unset, .unset, .unset] [] := by first | (simp [entryFrame, mkF, argsToLocals, Value.category, maxLocals]; done) | rfl
def Qlaw (Z : State) (x0 : Int32) (y0 : Int32) (h0 : Heap) (n0 : Nat) (v : Option Value) (h : Heap) (L : List Loc) : Prop := v = some (.int (1 : Int32)) ∧ Fr n0 L
set_option maxRecDepth 65536 in
set_option maxHeartbeats 40000000 in
theorem rmlaw (l : Launch) (Z : State) (a0 : Array Value) (hw : ∀ d ∈ tables_1, d.before a0 Z = true) (ws : List Jvm.Cond) (x0 : Int32) (y0 : Int32) (h0 : Heap) (n0 : Nat) (Z0 : n0 ≤ h0.size) :
    MetFree l x (head1 (Jvm.Cond.code x code maxLocals ret :: ws) room_1) (fun a U => a = #[(.int x0), (.int y0)] ∧ Z.Warmed39 U.vm ∧ U.heap = h0) (fun _ _ _ _ _ => True) (fun _ U o U' => ∃ v L, o = .returned v ∧ Qlaw Z x0 y0 h0 n0 v U'.heap L ∧ FrameEnd U o U' L room_1.cells room_1.slots) := by
  refine MetFree.of_bodySF (plainFor_of_name pn_law) hisR ?_
  intro p e s m args below meth c s₁ Bd hml0 hP hK
  obtain ⟨rfl, hZ, hh⟩ := hP
  have hx := Bd.exec
  have hby := Bd.bytes
  have hml : c.maxLocals = 5 := hml0
  have hown : s.vm.findClass "com/example/okra/okra/pack/StoredIndexWidthPinLaw" = some m.cls := findClass_of_methodNamed Bd.named
  have hnm := (name_of_methodNamed Bd.named Bd.method).1
  have X0 : Stand p l e room_1 s m #[(.int x0), (.int y0)] below meth c s₁ [] 0 0 := Stand.of_body Bd
  have e0 : s₁.heap = h0 := by rw [← hh, Bd.state]; rfl
  have N0 := Fr.nil n0
  have pre0 : ∀ t, Steps p.tables e below (s₁.setTop (mkF m 0 #[.val (.int x0), .val (.int y0), .unset, .unset, .unset] [])) t → Steps p.tables e below (s₁.setTop (entryFrame m #[(.int x0), (.int y0)] maxLocals)) t := fun t k => castTop (ef_law m x0 y0) k
  have pre1 : ∀ t, Steps p.tables e below (s₁.setTop (mkF m 8 #[.val (.int x0), .val (.int y0), .val (.int (XT.ushr x0 (y0 &&& (31 : Int32)))), .unset, .unset] [(.int x0)])) t → Steps p.tables e below (s₁.setTop (entryFrame m #[(.int x0), (.int y0)] maxLocals)) t := by
    intro t k
    refine pre0 t ?_
    refine XS.iloadN X0.here hx rfl (hb hby at_0) rfl ?_
    show Steps p.tables e below (s₁.setTop (mkF m 1 #[.val (.int x0), .val (.int y0), .unset, .unset, .unset] [(.int x0)])) _
    refine XS.iloadN X0.here hx rfl (hb hby at_1) rfl ?_
    show Steps p.tables e below (s₁.setTop (mkF m 2 #[.val (.int x0), .val (.int y0), .unset, .unset, .unset] [(.int y0), (.int x0)])) _
    refine XS.bipush X0.here hx rfl (hb hby at_2) ?_
    show Steps p.tables e below (s₁.setTop (mkF m 4 #[.val (.int x0), .val (.int y0), .unset, .unset, .unset] [(.int (31 : Int32)), (.int y0), (.int x0)])) _
    refine XS.iand X0.here hx rfl (hb hby at_4) rfl ?_
    show Steps p.tables e below (s₁.setTop (mkF m 5 #[.val (.int x0), .val (.int y0), .unset, .unset, .unset] [(.int (y0 &&& (31 : Int32))), (.int x0)])) _
    refine XT.iushr X0.here hx rfl (hb hby at_5) rfl ?_
    show Steps p.tables e below (s₁.setTop (mkF m 6 #[.val (.int x0), .val (.int y0), .unset, .unset, .unset] [(.int (XT.ushr x0 (y0 &&& (31 : Int32))))])) _
    refine XS.istoreN X0.here hx rfl (hb hby at_6) rfl (l' := #[.val (.int x0), .val (.int y0), .val (.int (XT.ushr x0 (y0 &&& (31 : Int32)))), .unset, .unset]) rfl ?_
    show Steps p.tables e below (s₁.setTop (mkF m 7 #[.val (.int x0), .val (.int y0), .val (.int (XT.ushr x0 (y0 &&& (31 : Int32)))), .unset, .unset] [])) _
    refine XS.iloadN X0.here hx rfl (hb hby at_7) rfl ?_
    show Steps p.tables e below (s₁.setTop (mkF m 8 #[.val (.int x0), .val (.int y0), .val (.int (XT.ushr x0 (y0 &&& (31 : Int32)))), .unset, .unset] [(.int x0)])) _
    exact k
  obtain ⟨_, _, ⟨T3, L3, k3, n3⟩, -, X3, ⟨Lc3, hQ3, l3, y3, z3⟩, st3⟩ := Jvm.LawKit.callS X0 hx (y := (⟨"com/example/okra/okra/pack/StoredIndex", "width", "(I)I"⟩ : MethodName)) hown (mvT hZ (hw _ (List.mem_of_getElem? (i := 0) rfl))) (mvT hZ (hw _ (List.mem_of_getElem? (i := 1) rfl))) (mvT hZ (hw _ (List.mem_of_getElem? (i := 2) rfl))) (mvT hZ (hw _ (List.mem_of_getElem? (i := 3) rfl))) (by decide) (backOf (W := 0) (rm1 l Z a0 hw [] x0 h0 n0 Z0) hZ (hw _ (List.mem_of_getElem? (i := 3) rfl)) (hw _ (List.mem_of_getElem? (i := 2) rfl)) (by decide) (by decide)) (g := (mkF m 8 #[.val (.int x0), .val (.int y0), .val (.int (XT.ushr x0 (y0 &&& (31 : Int32)))), .unset, .unset] [(.int x0)])) rfl (by rw [hml]; rfl) (argsL := [(.int x0)]) (rest := []) (lenOf pd_s rfl) rfl (by show 2 * 0 + _ ≤ _; exact Nat.le_of_eq rfl) (hb hby at_8) (fun _ _ => ⟨rfl, e0, (by decide : 0 + 0 ≤ _), (by decide : 0 + 0 ≤ _)⟩)
  dsimp only [Pt.U, Pt.locs, Pt.cells, Pt.slots] at X3 l3 y3 z3 st3 hQ3
  subst l3 y3 z3
  obtain ⟨rfl, Nq3, heq3⟩ := hQ3
  have N3 := Fr.app N0 Nq3
  have pre4 : ∀ t, Steps p.tables e below (T3.setTop (mkF m 11 #[.val (.int x0), .val (.int y0), .val (.int (XT.ushr x0 (y0 &&& (31 : Int32)))), .unset, .unset] [(.int (own_w x0))])) t → Steps p.tables e below (s₁.setTop (entryFrame m #[(.int x0), (.int y0)] maxLocals)) t := fun t k => pre1 t (st3 t k)
  have pre6 : ∀ t, Steps p.tables e below (T3.setTop (mkF m 12 #[.val (.int x0), .val (.int y0), .val (.int (XT.ushr x0 (y0 &&& (31 : Int32)))), .unset, .unset] [(.int x0), (.int (own_w x0))])) t → Steps p.tables e below (s₁.setTop (entryFrame m #[(.int x0), (.int y0)] maxLocals)) t := by
    intro t k
    refine pre4 t ?_
    refine XS.iloadN X3.here hx rfl (hb hby at_11) rfl ?_
    show Steps p.tables e below (T3.setTop (mkF m 12 #[.val (.int x0), .val (.int y0), .val (.int (XT.ushr x0 (y0 &&& (31 : Int32)))), .unset, .unset] [(.int x0), (.int (own_w x0))])) _
    exact k
  obtain ⟨_, _, ⟨T7, L7, k7, n7⟩, -, X7, ⟨Lc7, hQ7, l7, y7, z7⟩, st7⟩ := Jvm.LawKit.callS X3 hx (y := (⟨"com/example/okra/okra/pack/StoredIndexWidthPinLaw", "expected", "(I)I"⟩ : MethodName)) hown (mvT hZ (hw _ (List.mem_of_getElem? (i := 4) rfl))) (mvT hZ (hw _ (List.mem_of_getElem? (i := 5) rfl))) (mvT hZ (hw _ (List.mem_of_getElem? (i := 6) rfl))) (mvT hZ (hw _ (List.mem_of_getElem? (i := 7) rfl))) (by decide) (backOf (W := 1) (rm2 l Z a0 hw [] x0 h0 n0 Z0) hZ (hw _ (List.mem_of_getElem? (i := 7) rfl)) (hw _ (List.mem_of_getElem? (i := 6) rfl)) (by decide) (by decide)) (g := (mkF m 12 #[.val (.int x0), .val (.int y0), .val (.int (XT.ushr x0 (y0 &&& (31 : Int32)))), .unset, .unset] [(.int x0), (.int (own_w x0))])) rfl (by rw [hml]; rfl) (argsL := [(.int x0)]) (rest := [(.int (own_w x0))]) (lenOf pd_s rfl) rfl (by show 2 * 0 + _ ≤ _; exact Nat.le_of_eq rfl) (hb hby at_12) (fun _ _ => ⟨rfl, heq3, (by decide : 0 + 0 ≤ _), (by decide : 0 + 0 ≤ _)⟩)
  dsimp only [Pt.U, Pt.locs, Pt.cells, Pt.slots] at X7 l7 y7 z7 st7 hQ7
  subst l7 y7 z7
  obtain ⟨rfl, Nq7, heq7⟩ := hQ7
  have N7 := Fr.app N3 Nq7
  have pre8 : ∀ t, Steps p.tables e below (T7.setTop (mkF m 15 #[.val (.int x0), .val (.int y0), .val (.int (XT.ushr x0 (y0 &&& (31 : Int32)))), .unset, .unset] [(.int (own_e x0)), (.int (own_w x0))])) t → Steps p.tables e below (s₁.setTop (entryFrame m #[(.int x0), (.int y0)] maxLocals)) t := fun t k => pre6 t (st7 t k)
  have pre10 : ∀ t, Steps p.tables e below (T7.setTop (mkF m 25 #[.val (.int x0), .val (.int y0), .val (.int (XT.ushr x0 (y0 &&& (31 : Int32)))), .val (.int (1 : Int32)), .unset] [(.int (XT.ushr x0 (y0 &&& (31 : Int32))))])) t → Steps p.tables e below (s₁.setTop (entryFrame m #[(.int x0), (.int y0)] maxLocals)) t := by
    intro t k
    refine pre8 t ?_
    refine XS.icmpNo X7.here hx rfl (hb hby at_15) rfl (XT.ii_ne_f (own_we _)) ?_
    show Steps p.tables e below (T7.setTop (mkF m 18 #[.val (.int x0), .val (.int y0), .val (.int (XT.ushr x0 (y0 &&& (31 : Int32)))), .unset, .unset] [])) _
    refine XS.iconst X7.here hx rfl (hb hby at_18) ?_
    show Steps p.tables e below (T7.setTop (mkF m 19 #[.val (.int x0), .val (.int y0), .val (.int (XT.ushr x0 (y0 &&& (31 : Int32)))), .unset, .unset] [(.int (1 : Int32))])) _
    refine XS.goto X7.here hx rfl (pc0 := 19) (pc' := 23) rfl (hb hby at_19) (by decide) (by decide) ?_
    show Steps p.tables e below (T7.setTop (mkF m 23 #[.val (.int x0), .val (.int y0), .val (.int (XT.ushr x0 (y0 &&& (31 : Int32)))), .unset, .unset] [(.int (1 : Int32))])) _
    refine XS.istoreN X7.here hx rfl (hb hby at_23) rfl (l' := #[.val (.int x0), .val (.int y0), .val (.int (XT.ushr x0 (y0 &&& (31 : Int32)))), .val (.int (1 : Int32)), .unset]) rfl ?_
    show Steps p.tables e below (T7.setTop (mkF m 24 #[.val (.int x0), .val (.int y0), .val (.int (XT.ushr x0 (y0 &&& (31 : Int32)))), .val (.int (1 : Int32)), .unset] [])) _
    refine XS.iloadN X7.here hx rfl (hb hby at_24) rfl ?_
    show Steps p.tables e below (T7.setTop (mkF m 25 #[.val (.int x0), .val (.int y0), .val (.int (XT.ushr x0 (y0 &&& (31 : Int32)))), .val (.int (1 : Int32)), .unset] [(.int (XT.ushr x0 (y0 &&& (31 : Int32))))])) _
    exact k
  obtain ⟨_, _, ⟨T11, L11, k11, n11⟩, -, X11, ⟨Lc11, hQ11, l11, y11, z11⟩, st11⟩ := Jvm.LawKit.callS X7 hx (y := (⟨"com/example/okra/okra/pack/StoredIndex", "width", "(I)I"⟩ : MethodName)) hown (mvT hZ (hw _ (List.mem_of_getElem? (i := 0) rfl))) (mvT hZ (hw _ (List.mem_of_getElem? (i := 1) rfl))) (mvT hZ (hw _ (List.mem_of_getElem? (i := 2) rfl))) (mvT hZ (hw _ (List.mem_of_getElem? (i := 3) rfl))) (by decide) (backOf (W := 0) (rm1 l Z a0 hw [] (XT.ushr x0 (y0 &&& (31 : Int32))) h0 n0 Z0) hZ (hw _ (List.mem_of_getElem? (i := 3) rfl)) (hw _ (List.mem_of_getElem? (i := 2) rfl)) (by decide) (by decide)) (g := (mkF m 25 #[.val (.int x0), .val (.int y0), .val (.int (XT.ushr x0 (y0 &&& (31 : Int32)))), .val (.int (1 : Int32)), .unset] [(.int (XT.ushr x0 (y0 &&& (31 : Int32))))])) rfl (by rw [hml]; rfl) (argsL := [(.int (XT.ushr x0 (y0 &&& (31 : Int32))))]) (rest := []) (lenOf pd_s rfl) rfl (by show 2 * 0 + _ ≤ _; exact Nat.le_of_eq rfl) (hb hby at_25) (fun _ _ => ⟨rfl, heq7, (by decide : 0 + 0 ≤ _), (by decide : 0 + 0 ≤ _)⟩)
  dsimp only [Pt.U, Pt.locs, Pt.cells, Pt.slots] at X11 l11 y11 z11 st11 hQ11
  subst l11 y11 z11
  obtain ⟨rfl, Nq11, heq11⟩ := hQ11
  have N11 := Fr.app N7 Nq11
  have pre12 : ∀ t, Steps p.tables e below (T11.setTop (mkF m 28 #[.val (.int x0), .val (.int y0), .val (.int (XT.ushr x0 (y0 &&& (31 : Int32)))), .val (.int (1 : Int32)), .unset] [(.int (own_w (XT.ushr x0 (y0 &&& (31 : Int32)))))])) t → Steps p.tables e below (s₁.setTop (entryFrame m #[(.int x0), (.int y0)] maxLocals)) t := fun t k => pre10 t (st11 t k)
  have pre14 : ∀ t, Steps p.tables e below (T11.setTop (mkF m 29 #[.val (.int x0), .val (.int y0), .val (.int (XT.ushr x0 (y0 &&& (31 : Int32)))), .val (.int (1 : Int32)), .unset] [(.int (XT.ushr x0 (y0 &&& (31 : Int32)))), (.int (own_w (XT.ushr x0 (y0 &&& (31 : Int32)))))])) t → Steps p.tables e below (s₁.setTop (entryFrame m #[(.int x0), (.int y0)] maxLocals)) t := by
    intro t k
    refine pre12 t ?_
    refine XS.iloadN X11.here hx rfl (hb hby at_28) rfl ?_
    show Steps p.tables e below (T11.setTop (mkF m 29 #[.val (.int x0), .val (.int y0), .val (.int (XT.ushr x0 (y0 &&& (31 : Int32)))), .val (.int (1 : Int32)), .unset] [(.int (XT.ushr x0 (y0 &&& (31 : Int32)))), (.int (own_w (XT.ushr x0 (y0 &&& (31 : Int32)))))])) _
    exact k
  obtain ⟨_, _, ⟨T15, L15, k15, n15⟩, -, X15, ⟨Lc15, hQ15, l15, y15, z15⟩, st15⟩ := Jvm.LawKit.callS X11 hx (y := (⟨"com/example/okra/okra/pack/StoredIndexWidthPinLaw", "expected", "(I)I"⟩ : MethodName)) hown (mvT hZ (hw _ (List.mem_of_getElem? (i := 4) rfl))) (mvT hZ (hw _ (List.mem_of_getElem? (i := 5) rfl))) (mvT hZ (hw _ (List.mem_of_getElem? (i := 6) rfl))) (mvT hZ (hw _ (List.mem_of_getElem? (i := 7) rfl))) (by decide) (backOf (W := 1) (rm2 l Z a0 hw [] (XT.ushr x0 (y0 &&& (31 : Int32))) h0 n0 Z0) hZ (hw _ (List.mem_of_getElem? (i := 7) rfl)) (hw _ (List.mem_of_getElem? (i := 6) rfl)) (by decide) (by decide)) (g := (mkF m 29 #[.val (.int x0), .val (.int y0), .val (.int (XT.ushr x0 (y0 &&& (31 : Int32)))), .val (.int (1 : Int32)), .unset] [(.int (XT.ushr x0 (y0 &&& (31 : Int32)))), (.int (own_w (XT.ushr x0 (y0 &&& (31 : Int32)))))])) rfl (by rw [hml]; rfl) (argsL := [(.int (XT.ushr x0 (y0 &&& (31 : Int32))))]) (rest := [(.int (own_w (XT.ushr x0 (y0 &&& (31 : Int32)))))]) (lenOf pd_s rfl) rfl (by show 2 * 0 + _ ≤ _; exact Nat.le_of_eq rfl) (hb hby at_29) (fun _ _ => ⟨rfl, heq11, (by decide : 0 + 0 ≤ _), (by decide : 0 + 0 ≤ _)⟩)
  dsimp only [Pt.U, Pt.locs, Pt.cells, Pt.slots] at X15 l15 y15 z15 st15 hQ15
  subst l15 y15 z15
  obtain ⟨rfl, Nq15, heq15⟩ := hQ15
  have N15 := Fr.app N11 Nq15
  have pre16 : ∀ t, Steps p.tables e below (T15.setTop (mkF m 32 #[.val (.int x0), .val (.int y0), .val (.int (XT.ushr x0 (y0 &&& (31 : Int32)))), .val (.int (1 : Int32)), .unset] [(.int (own_e (XT.ushr x0 (y0 &&& (31 : Int32))))), (.int (own_w (XT.ushr x0 (y0 &&& (31 : Int32)))))])) t → Steps p.tables e below (s₁.setTop (entryFrame m #[(.int x0), (.int y0)] maxLocals)) t := fun t k => pre14 t (st15 t k)
  have pre17 : ∀ t, Steps p.tables e below (T15.setTop (mkF m 56 #[.val (.int x0), .val (.int y0), .val (.int (XT.ushr x0 (y0 &&& (31 : Int32)))), .val (.int (1 : Int32)), .val (.int (1 : Int32))] [(.int (1 : Int32))])) t → Steps p.tables e below (s₁.setTop (entryFrame m #[(.int x0), (.int y0)] maxLocals)) t := by
    intro t k
    refine pre16 t ?_
    refine XS.icmpNo X15.here hx rfl (hb hby at_32) rfl (XT.ii_ne_f (own_we _)) ?_
    show Steps p.tables e below (T15.setTop (mkF m 35 #[.val (.int x0), .val (.int y0), .val (.int (XT.ushr x0 (y0 &&& (31 : Int32)))), .val (.int (1 : Int32)), .unset] [])) _
    refine XS.iconst X15.here hx rfl (hb hby at_35) ?_
    show Steps p.tables e below (T15.setTop (mkF m 36 #[.val (.int x0), .val (.int y0), .val (.int (XT.ushr x0 (y0 &&& (31 : Int32)))), .val (.int (1 : Int32)), .unset] [(.int (1 : Int32))])) _
    refine XS.goto X15.here hx rfl (pc0 := 36) (pc' := 40) rfl (hb hby at_36) (by decide) (by decide) ?_
    show Steps p.tables e below (T15.setTop (mkF m 40 #[.val (.int x0), .val (.int y0), .val (.int (XT.ushr x0 (y0 &&& (31 : Int32)))), .val (.int (1 : Int32)), .unset] [(.int (1 : Int32))])) _
    refine XS.istore X15.here hx rfl (hb hby at_40) rfl (l' := #[.val (.int x0), .val (.int y0), .val (.int (XT.ushr x0 (y0 &&& (31 : Int32)))), .val (.int (1 : Int32)), .val (.int (1 : Int32))]) rfl ?_
    show Steps p.tables e below (T15.setTop (mkF m 42 #[.val (.int x0), .val (.int y0), .val (.int (XT.ushr x0 (y0 &&& (31 : Int32)))), .val (.int (1 : Int32)), .val (.int (1 : Int32))] [])) _
    refine XS.iloadN X15.here hx rfl (hb hby at_42) rfl ?_
    show Steps p.tables e below (T15.setTop (mkF m 43 #[.val (.int x0), .val (.int y0), .val (.int (XT.ushr x0 (y0 &&& (31 : Int32)))), .val (.int (1 : Int32)), .val (.int (1 : Int32))] [(.int (1 : Int32))])) _
    refine XS.ifNo X15.here hx rfl (hb hby at_43) rfl (XT.i0_eq_f (by decide)) ?_
    show Steps p.tables e below (T15.setTop (mkF m 46 #[.val (.int x0), .val (.int y0), .val (.int (XT.ushr x0 (y0 &&& (31 : Int32)))), .val (.int (1 : Int32)), .val (.int (1 : Int32))] [])) _
    refine XS.iload X15.here hx rfl (hb hby at_46) rfl ?_
    show Steps p.tables e below (T15.setTop (mkF m 48 #[.val (.int x0), .val (.int y0), .val (.int (XT.ushr x0 (y0 &&& (31 : Int32)))), .val (.int (1 : Int32)), .val (.int (1 : Int32))] [(.int (1 : Int32))])) _
    refine XS.ifNo X15.here hx rfl (hb hby at_48) rfl (XT.i0_eq_f (by decide)) ?_
    show Steps p.tables e below (T15.setTop (mkF m 51 #[.val (.int x0), .val (.int y0), .val (.int (XT.ushr x0 (y0 &&& (31 : Int32)))), .val (.int (1 : Int32)), .val (.int (1 : Int32))] [])) _
    refine XS.iconst X15.here hx rfl (hb hby at_51) ?_
    show Steps p.tables e below (T15.setTop (mkF m 52 #[.val (.int x0), .val (.int y0), .val (.int (XT.ushr x0 (y0 &&& (31 : Int32)))), .val (.int (1 : Int32)), .val (.int (1 : Int32))] [(.int (1 : Int32))])) _
    refine XS.goto X15.here hx rfl (pc0 := 52) (pc' := 56) rfl (hb hby at_52) (by decide) (by decide) ?_
    show Steps p.tables e below (T15.setTop (mkF m 56 #[.val (.int x0), .val (.int y0), .val (.int (XT.ushr x0 (y0 &&& (31 : Int32)))), .val (.int (1 : Int32)), .val (.int (1 : Int32))] [(.int (1 : Int32))])) _
    exact k
  obtain ⟨fs, hr, hrun, hended, hW, hsame⟩ := X15.leave (v := some (.int (1 : Int32))) (fun h => by rw [Bd.returns] at h; cases h)
  refine ⟨_, _, pre17 _ ?_, hrun, hended, _, _, rfl, ?_, ⟨_, rfl⟩, hW, hsame.mono (by decide) (by decide)⟩
  · exact retOut X15 hx Bd.returns rfl (Or.inl ⟨rfl, by simp, _, rfl⟩) (hb hby at_56) hr
  · show Qlaw Z x0 y0 h0 n0 _ T15.heap _
    rw [heq15]
    exact ⟨rfl, N15⟩
set_option maxRecDepth 65536 in
set_option maxHeartbeats 40000000 in
theorem comes_1 {Post : Tables → Env → Array Value → State → Outcome → State → Prop} (hpost : ∀ tb e args s v u, (limb_1_1.after args s (.returned v) u = true ∧ limb_1_2.after args s (.returned v) u = true ∧ True) → FrameEnd s (.returned v) u (Jvm.fieldLocs frame_1_writes args s ++ Jvm.arrayLocs frame_1_arrays args s ++ Jvm.staticLocs frame_1_statics s) 0 0 → Post tb e args s (.returned v) u) :
    ArmFor flags0 classFile x code maxLocals ret World_1 tables_1 room_1 Calls_1 rest_1 Pre_1 Post := by
  intro l hfl _ _ p e ha hc hk s m args below hf hA hF happ hP
  obtain ⟨hcalls, hrest, hpre⟩ := hP
  obtain ⟨-, -, -, hnamed, -, -, -, hat⟩ := (Spec.applies_iff hf).mp happ
  obtain ⟨hg, hn⟩ := and_e (Cond.before_iff.mp (show (Jvm.Cond.and given_1 narrow_1).before args s = true from hpre))
  obtain ⟨gc, g0⟩ := and_e hg
  obtain ⟨w0, w1, rfl⟩ : ∃ w0 w1 : Value, args = #[w0, w1] := by
    have hs : args.size = 2 := by simpa [Cond.value, given_1] using gc
    obtain ⟨L⟩ := args
    match L, hs with
    | [w0, w1], _ => exact ⟨w0, w1, rfl⟩
  have hw := fun d (hd : d ∈ tables_1) => atoms_spec (ws := Jvm.Cond.code x code maxLocals ret :: tables_1) hat d (List.mem_cons_of_mem _ hd)
  have hfit : Fit s := fun {y c} hc i hi => by
    obtain ⟨ha, rfl⟩ := Array.getElem?_eq_some_iff.mp hc
    have q := List.all_eq_true.mp ((Array.all_eq_true_iff_forall_mem.mp hF) _ (Array.getElem_mem ha)) i (List.mem_range.mpr hi)
    simpa [Array.getElem?_eq_getElem hi] using q
  obtain ⟨ga0, gb0⟩ := and_e g0
  obtain ⟨i0, ei0⟩ := is_v ga0
  obtain rfl : w0 = (.int i0) := Option.some.inj ei0
  obtain ⟨i1, ei1⟩ := is_v gb0
  obtain rfl : w1 = (.int i1) := Option.some.inj ei1
  obtain ⟨n, o, h1, h2, h3, _, L, rfl, ⟨rfl, N⟩, hq⟩ := rmlaw l s _ hw tables_1 i0 i1 s.heap s.heap.size (Nat.le_refl _)  p e ha hc hk s m _ below hf ((Spec.applies_iff_loose hf).mp happ).1 ⟨rfl, State.Warmed39.refl s, rfl⟩ trivial
  refine ⟨n, _, h1, h2, h3, hpost _ _ _ _ _ _ ⟨Cond.after_iff.mpr rfl, Cond.after_iff.mpr (eq_i res_at (Term.int_eval (1)) rfl), trivial⟩ ⟨hq.1, hq.2.1, (hq.2.2.sift fun y hy => Or.inr (N y hy)).mono (by decide) (by decide)⟩⟩
theorem main_1_1 : Claimed_1_1 := comes_1 fun _ _ _ _ _ _ h hF => ⟨h.1, hF⟩
theorem main_1_2 : Claimed_1_2 := comes_1 fun _ _ _ _ _ _ h hF => ⟨h.2.1, hF⟩
end Jvm.Pilot.@@N@@
namespace Jvm.Pilot.@@N@@
open Jvm Jvm.ClassFile Sem Op Lib Jvm.Free Jvm.Stand Jvm.Pilot.@@N@@.Jvm.D
/-! MADE BY PROGRAM (witnessworld.py) out of the Statement's table words and the real class files: 9 classes; the members and pool entries that the words name. The judged class is class 1, her method 2. -/
namespace start1
open Jvm.ClassFile
def u (s : String) : CpInfo := .utf8 (stringToUtf16 s)
/-- a pool by its gaps: so many unusable entries, then the entry; so many at the end -/
def gap : Nat → List CpInfo → List CpInfo
  | 0, r => r
  | n + 1, r => .unusable :: gap n r
def poolList (es : List (Nat × CpInfo)) (last : Nat) : List CpInfo := es.foldr (fun e r => gap e.1 (e.2 :: r)) (gap last [])
def pool (es : List (Nat × CpInfo)) (last : Nat) : Array CpInfo := ⟨poolList es last⟩
def fileOf (pool : Array CpInfo) (this : Nat) (attrs : Array Attribute := #[]) (ms : Array MethodInfo := #[]) (fl : Nat := 33) (sup : Nat := 0) (ifs : Array Nat := #[]) (fds : Array FieldInfo := #[]) : ClassFile where
  minorVersion := 0
  majorVersion := 65
  constantPool := pool
  accessFlags := fl
  thisClass := this
  superClass := sup
  interfaces := ifs
  fields := fds
  methods := ms
  attributes := attrs
def plain (name : String) (sup : Option ClassId) : Class where
  name := name
  kind := .ordinary
  loader := none
  accessFlags := 33
  super := sup
  interfaces := #[]
  cf := none
  fields := #[]
  methods := #[]
  instanceTypes := #[]
  staticTypes := #[]
  resolved := #[]
  callSites := []
  init := .initialized
  statics := none
  mirror := none

def pool0 : Array CpInfo := pool [(5, u "<init>"), (0, u "()V"), (1, .class_ 10), (1, u "java/lang/Object")] 113

def k0m0 : Method := { name := "<init>", desc := "()V", sig := { parameters := [], returnType := none }, accessFlags := 1, code := none }
/-- java/lang/Object -/
def k0 : Class := { plain "java/lang/Object" none with
  accessFlags := 33
  interfaces := #[]
  cf := some (fileOf pool0 8 #[] #[{ accessFlags := 1, nameIndex := 5, descriptorIndex := 6, attributes := #[] }] 33 0 #[] #[])
  fields := #[]
  methods := #[k0m0]
  instanceTypes := #[]
  staticTypes := #[]
  resolved := Array.replicate 124 none
  statics := none }

def pool1 : Array CpInfo := pool [(2, .class_ 4), (1, u "java/lang/Object"), (0, u "<init>"), (0, u "()V"), (0, .long 4294967295), (1, .long 256), (1, .long 65536), (1, .long 16777216), (1, .methodref 16 17), (0, .class_ 18), (0, .nameAndType 19 20), (0, u "com/example/okra/okra/pack/StoredIndex"), (0, u "width"), (0, u "(I)I"), (0, .methodref 22 23), (0, .class_ 24), (0, .nameAndType 25 20), (0, u "com/example/okra/okra/pack/StoredIndexWidthPinLaw"), (0, u "expected"), (3, u "law"), (0, u "(II)Z")] 2

def k1m0 : Method := { name := "<init>", desc := "()V", sig := { parameters := [], returnType := none }, accessFlags := 1, code := none }
def k1c1 : Code := { maxStack := 4, maxLocals := 3, code := method_2_code, exceptionTable := #[], attributes := #[] }
def k1m1 : Method := { name := "expected", desc := "(I)I", sig := { parameters := [.int], returnType := some .int }, accessFlags := 10, code := some k1c1 }
def k1c2 : Code := { maxStack := 3, maxLocals := 5, code := code, exceptionTable := #[], attributes := #[] }
def k1m2 : Method := { name := "law", desc := "(II)Z", sig := { parameters := [.int, .int], returnType := some .boolean }, accessFlags := 9, code := some k1c2 }
/-- com/example/okra/okra/pack/StoredIndexWidthPinLaw -/
def k1 : Class := { plain "com/example/okra/okra/pack/StoredIndexWidthPinLaw" (some 0) with
  accessFlags := 49
  interfaces := #[]
  cf := some (fileOf pool1 22 #[] #[{ accessFlags := 1, nameIndex := 5, descriptorIndex := 6, attributes := #[] }, { accessFlags := 10, nameIndex := 25, descriptorIndex := 20, attributes := #[] }, { accessFlags := 9, nameIndex := 29, descriptorIndex := 30, attributes := #[] }] 49 2 #[] #[])
  fields := #[]
  methods := #[k1m0, k1m1, k1m2]
  instanceTypes := #[]
  staticTypes := #[]
  resolved := Array.replicate 33 none
  statics := none }

def pool2 : Array CpInfo := pool [(2, .class_ 4), (1, u "java/lang/Object"), (3, .class_ 10), (1, u "com/example/okra/okra/pack/StoredIndex"), (0, u "bytes"), (0, u "[B"), (2, u "first"), (0, u "I"), (2, u "numbers"), (2, u "width"), (2, u "size"), (3, u "(I)I"), (13, u "MAX_WIDTH")] 27

def k2c0 : Code := { maxStack := 3, maxLocals := 2, code := prog_45_method_4_code, exceptionTable := #[], attributes := #[] }
def k2m0 : Method := { name := "width", desc := "(I)I", sig := { parameters := [.int], returnType := some .int }, accessFlags := 8, code := some k2c0 }
/-- com/example/okra/okra/pack/StoredIndex -/
def k2 : Class := { plain "com/example/okra/okra/pack/StoredIndex" (some 0) with
  accessFlags := 33
  interfaces := #[]
  cf := some (fileOf pool2 8 #[] #[{ accessFlags := 8, nameIndex := 22, descriptorIndex := 29, attributes := #[] }] 33 2 #[] #[{ accessFlags := 24, nameIndex := 43, descriptorIndex := 16, attributes := #[] }, { accessFlags := 18, nameIndex := 11, descriptorIndex := 12, attributes := #[] }, { accessFlags := 18, nameIndex := 15, descriptorIndex := 16, attributes := #[] }, { accessFlags := 18, nameIndex := 19, descriptorIndex := 16, attributes := #[] }, { accessFlags := 18, nameIndex := 22, descriptorIndex := 16, attributes := #[] }, { accessFlags := 18, nameIndex := 25, descriptorIndex := 16, attributes := #[] }])
  fields := #[{ name := "MAX_WIDTH", type := .int, accessFlags := 24, slot := 0, constantValue := 0 }, { name := "bytes", type := (.array .byte), accessFlags := 18, slot := 0, constantValue := 0 }, { name := "first", type := .int, accessFlags := 18, slot := 1, constantValue := 0 }, { name := "numbers", type := .int, accessFlags := 18, slot := 2, constantValue := 0 }, { name := "width", type := .int, accessFlags := 18, slot := 3, constantValue := 0 }, { name := "size", type := .int, accessFlags := 18, slot := 4, constantValue := 0 }]
  methods := #[k2m0]
  instanceTypes := #[(.array .byte), .int, .int, .int, .int]
  staticTypes := #[.int]
  resolved := Array.replicate 71 none
  statics := none }

def pool3 : Array CpInfo := pool [(1, u "java/lang/Cloneable"), (0, .class_ 1), (0, u "java/lang/Object"), (0, .class_ 3)] 3

/-- java/lang/Cloneable -/
def k3 : Class := { plain "java/lang/Cloneable" (some 0) with
  accessFlags := 1537
  interfaces := #[]
  cf := some (fileOf pool3 2 #[] #[] 1537 4 #[] #[])
  fields := #[]
  methods := #[]
  instanceTypes := #[]
  staticTypes := #[]
  resolved := Array.replicate 8 none
  statics := none }

def pool4 : Array CpInfo := pool [(1, u "java/io/Serializable"), (0, .class_ 1), (0, u "java/lang/Object"), (0, .class_ 3)] 3

/-- java/io/Serializable -/
def k4 : Class := { plain "java/io/Serializable" (some 0) with
  accessFlags := 1537
  interfaces := #[]
  cf := some (fileOf pool4 2 #[] #[] 1537 4 #[] #[])
  fields := #[]
  methods := #[]
  instanceTypes := #[]
  staticTypes := #[]
  resolved := Array.replicate 8 none
  statics := none }

/-- the primitive byte -/
def k5 : Class := { plain "byte" none with kind := .primitive 'B', accessFlags := 0x411 }
/-- [B -/
def k6 : Class := { plain "[B" (some 0) with kind := .array 5 .byte, interfaces := #[3, 4], accessFlags := 1041 }

/-- the primitive int -/
def k7 : Class := { plain "int" none with kind := .primitive 'I', accessFlags := 0x411 }
/-- [I -/
def k8 : Class := { plain "[I" (some 0) with kind := .array 7 .int, interfaces := #[3, 4], accessFlags := 1041 }

def heap : Heap := #[]
def classes : Array Class := #[k0, k1, k2, k3, k4, k5, k6, k7, k8]
def interned : List (Array UInt16 × Addr) := []
def slotsUsed : Nat := 0
def theMethod : MethodId := ⟨1, 2⟩
def args0 : Array Value := #[.int 7, .int 3]
def aboutOver (below : List Frame) : State where
  vm := { classes := classes, interned := interned.toArray }
  heap := heap
  slotsUsed := slotsUsed
  threads := #[{ frames := .invoking theMethod args0 :: below }]
def below0 : List Frame := [.native { method := ⟨0, 0⟩, args := #[] }]
def about1 : State := aboutOver below0
def p0 : Program := .bare "" "" ""
def e0 : Env := launch0.env 0 0 0
theorem w_frames : about1.frames = Frame.invoking theMethod args0 :: below0 := rfl
set_option maxRecDepth 65536 in
theorem w_args : argsFit about1.vm theMethod args0 = true := by decide +kernel
set_option maxRecDepth 65536 in
theorem w_heap : heapFits about1 = true := by decide +kernel
set_option maxRecDepth 65536 in
theorem w_runnable : about1.curStatus? = some .runnable := by decide +kernel
set_option maxRecDepth 65536 in
theorem w_alone : about1.alone = true := by decide +kernel
set_option maxRecDepth 65536 in
theorem w_named : about1.methodNamed? x = some theMethod := by decide +kernel
set_option maxRecDepth 65536 in
theorem w_hears : about1.hears theMethod below0 = true := by decide +kernel
set_option maxRecDepth 65536 in
theorem w_ripe : about1.ripe theMethod args0 below0 = true := by decide +kernel
theorem w_running : about1.status = .running := rfl
set_option maxRecDepth 65536 in
theorem w_room : about1.hasRoom e0.platform room_1 = true :=
  launch0.hasRoom_least _ room_1 (by decide +kernel) (by decide +kernel) (by decide +kernel) (by decide +kernel) (by decide +kernel) (by decide +kernel)
theorem allAtoms_all (ts : List Jvm.Cond) (a : Array Jvm.Value) (st : Jvm.State) : (allAtoms ts).before a st = ts.all (fun c => c.before a st) := by
  induction ts with
  | nil => rfl
  | cons c t ih =>
    show (Jvm.Cond.and c (allAtoms t)).before a st = _
    rw [Jvm.Cond.before_and, ih, List.all_cons]
def words1 : List Jvm.Cond := Jvm.Cond.code x code maxLocals ret :: tables_1
/-- a 'code' word, met by the world's own term for the bytes: nothing is compared byte by byte -/
theorem code_word {y : MethodName} {bytes : ByteArray} {mx : Nat} {rt : Option FieldType} {a : Array Value} {s : State} {m : MethodId} {meth : Method} {c : Code} (h1 : s.methodNamed? y = some m) (h2 : s.vm.method? m = some meth) (h3 : meth.code = some c) (h4 : c.code = bytes)
    (h5 : (c.maxLocals == mx && c.exceptionTable.isEmpty && decide (c.maxStack ≤ mostOperands) && decide (meth.sig.returnType = rt) && !meth.locks && decide (parseMethodDescriptor y.desc = some meth.sig)) = true) : (Jvm.Cond.code y bytes mx rt).before a s = true := by
  simp only [Bool.and_eq_true, beq_iff_eq, Bool.not_eq_true', decide_eq_true_eq] at h5
  obtain ⟨⟨⟨⟨⟨g1, g2⟩, g3⟩, g4⟩, g5⟩, g6⟩ := h5
  simp [Cond.before, Cond.holds, Cond.value, h1, h2, h3, h4, g1, g2, g3, g4, g5, g6]
def isCode : Jvm.Cond → Bool
  | .code _ _ _ _ => true
  | _ => false
theorem all_split {L : List Jvm.Cond} {P : Jvm.Cond → Bool} (h1 : L.all (fun c => isCode c || P c) = true) (h2 : ∀ c ∈ L.filter isCode, P c = true) : L.all P = true := by
  refine List.all_eq_true.mpr fun c hc => ?_
  have h := List.all_eq_true.mp h1 c hc
  rcases Bool.eq_false_or_eq_true (isCode c) with hi | hi
  · exact h2 c (List.mem_filter.mpr ⟨hc, hi⟩)
  · simpa [hi] using h
set_option maxRecDepth 65536 in
theorem w_c0 : (Jvm.Cond.code x code maxLocals ret).before args0 about1 = true := code_word (m := ⟨1, 2⟩) (meth := k1m2) (c := k1c2) (by decide +kernel) rfl rfl rfl (by decide +kernel)
set_option maxRecDepth 65536 in
theorem w_c1 : (Jvm.Cond.code ({ cls := "com/example/okra/okra/pack/StoredIndex", name := "width", desc := "(I)I" } : Jvm.MethodName) prog_45_method_4_code (2 : Nat) (Option.some Jvm.ClassFile.FieldType.int)).before args0 about1 = true := code_word (m := ⟨2, 0⟩) (meth := k2m0) (c := k2c0) (by decide +kernel) rfl rfl rfl (by decide +kernel)
set_option maxRecDepth 65536 in
theorem w_c2 : (Jvm.Cond.code ({ cls := "com/example/okra/okra/pack/StoredIndexWidthPinLaw", name := "expected", desc := "(I)I" } : Jvm.MethodName) method_2_code (3 : Nat) (Option.some Jvm.ClassFile.FieldType.int)).before args0 about1 = true := code_word (m := ⟨1, 1⟩) (meth := k1m1) (c := k1c1) (by decide +kernel) rfl rfl rfl (by decide +kernel)
def codes1 : List Jvm.Cond := [Jvm.Cond.code x code maxLocals ret, Jvm.Cond.code ({ cls := "com/example/okra/okra/pack/StoredIndex", name := "width", desc := "(I)I" } : Jvm.MethodName) prog_45_method_4_code (2 : Nat) (Option.some Jvm.ClassFile.FieldType.int), Jvm.Cond.code ({ cls := "com/example/okra/okra/pack/StoredIndexWidthPinLaw", name := "expected", desc := "(I)I" } : Jvm.MethodName) method_2_code (3 : Nat) (Option.some Jvm.ClassFile.FieldType.int)]
set_option maxRecDepth 65536 in
theorem codes_eq : words1.filter isCode = codes1 := rfl
theorem w_codes : ∀ c ∈ words1.filter isCode, c.before args0 about1 = true := by
  rw [codes_eq]
  intro c hc
  simp only [codes1, List.mem_cons, List.not_mem_nil, or_false] at hc
  rcases hc with rfl | rfl | rfl
  · exact w_c0
  · exact w_c1
  · exact w_c2
set_option maxRecDepth 65536 in
theorem w_t1 : words1.all (fun c => isCode c || c.before args0 about1) = true := by decide +kernel
theorem w_tables : (allAtoms (Jvm.Cond.code x code maxLocals ret :: tables_1)).before args0 about1 = true := by
  rw [allAtoms_all]
  show words1.all (fun c => c.before args0 about1) = true
  refine all_split ?_ w_codes
  rw [w_t1]
set_option maxRecDepth 65536 in
theorem w_case : (Jvm.Cond.and given_1 narrow_1).before args0 about1 = true := by decide +kernel
theorem w_applies : (headSpec (Jvm.Cond.code x code maxLocals ret :: tables_1) room_1).applies x e0.platform about1 = true :=
  (Spec.applies_iff w_frames).mpr ⟨w_running, w_runnable, w_alone, w_named, w_hears, w_ripe, w_room, w_tables⟩
theorem atStart : AtStart classFile x code maxLocals ret World_1 tables_1 room_1 Calls_1 rest_1 Pre_1 launch0 p0 e0 about1 theMethod args0 below0 :=
  ⟨lists_1, trivial, launch0.admits_env _ _ _, launch0.least_env, fairChoices_fair.cas, fairChoices_fair.clock, w_frames, w_args, w_heap, w_applies, trivial, trivial, w_case⟩
end start1
theorem witness_1 : WitnessClaimed_1 := ⟨start1.p0, start1.e0, start1.about1, start1.theMethod, start1.args0, start1.below0, start1.atStart⟩
end Jvm.Pilot.@@N@@
