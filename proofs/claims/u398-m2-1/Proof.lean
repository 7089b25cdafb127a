import JvmDerived
import JvmDerived.Pilot.@@N@@Statement
import JvmDerived.Pilot.@@N@@Code
set_option linter.unusedVariables false
set_option linter.unusedSimpArgs false
namespace Jvm.Pilot.@@N@@
open Jvm Jvm.ClassFile Sem Op Lib Jvm.Free Jvm.Stand Jvm.LawKit Jvm.RoadKit Bundle Jvm.Pilot.@@N@@.Jvm.D
def own_bi (P : Prop) [Decidable P] : Int32 := if P then 1 else 0
theorem own_bi_t {P : Prop} [Decidable P] (h : P) : own_bi P = 1 := if_pos h
theorem own_bi_f {P : Prop} [Decidable P] (h : ¬ P) : own_bi P = 0 := if_neg h
theorem own_bi_01 (P : Prop) [Decidable P] : own_bi P = 0 ∨ own_bi P = 1 := by by_cases h : P <;> simp [own_bi, h]
theorem own_bi_eq {P Q : Prop} [Decidable P] [Decidable Q] (h : P ↔ Q) : own_bi P = own_bi Q := by by_cases q : P <;> simp [own_bi, q, ← h]
theorem own_bi_iff (P : Prop) [Decidable P] : own_bi P = 1 ↔ P := by by_cases q : P <;> simp [own_bi, q]
theorem own_bi_ne (P : Prop) [Decidable P] : own_bi P = 0 ↔ ¬ P := by by_cases q : P <;> simp [own_bi, q]
theorem own_ofNat {n : Nat} (h : n < 2147483648) : (Int32.ofNat n).toInt = (n : Int) := len_toInt h
theorem own_narZ {z : Int32} (h : z = 0 ∨ z = 1) : narrow .boolean (.int z) = .int z := by rcases h with rfl | rfl <;> rfl
theorem own_byte (x : Int32) : (nar .byte x.toInt8.toInt32) &&& (255 : Int32) = x &&& (255 : Int32) := by
  show x.toInt8.toInt32.toInt8.toInt32 &&& (255 : Int32) = x &&& (255 : Int32)
  apply Int32.toInt_inj.mp
  rw [c_mask _ 255 8 (by decide) (by decide), c_mask _ 255 8 (by decide) (by decide)]
  have h1 := c_i2b x
  have h2 := c_i2b x.toInt8.toInt32
  omega
def own_px (r3 r0 r1 r2 : Int32) : Int32 := (((((r3 &&& (255 : Int32)) <<< ((24 : Int32) &&& 31)) ||| ((r0 &&& (255 : Int32)) <<< ((16 : Int32) &&& 31))) ||| ((r1 &&& (255 : Int32)) <<< ((8 : Int32) &&& 31))) ||| (r2 &&& (255 : Int32)))
theorem own_back (x : Int32) : own_px (nar .byte ((XT.ushr x (24 : Int32)).toInt8.toInt32)) (nar .byte ((x >>> ((16 : Int32) &&& 31)).toInt8.toInt32)) (nar .byte ((x >>> ((8 : Int32) &&& 31)).toInt8.toInt32)) (nar .byte (x.toInt8.toInt32)) = x := by
  unfold own_px
  rw [own_byte, own_byte, own_byte, own_byte]
  have a1 : (XT.ushr x (24 : Int32)).toInt = (x.toInt % 4294967296) / (2 ^ 24 : Nat) := c_iushr x 24 24 (by decide) (by decide)
  have a2 := c_ishr x 16 16 (by decide)
  have a3 := c_ishr x 8 8 (by decide)
  have b1 := c_mask (XT.ushr x (24 : Int32)) 255 8 (by decide) (by decide)
  have b2 := c_mask (x >>> ((16 : Int32) &&& 31)) 255 8 (by decide) (by decide)
  have b3 := c_mask (x >>> ((8 : Int32) &&& 31)) 255 8 (by decide) (by decide)
  have b4 := c_mask x 255 8 (by decide) (by decide)
  generalize XT.ushr x (24 : Int32) &&& (255 : Int32) = A at *
  generalize (x >>> ((16 : Int32) &&& 31)) &&& (255 : Int32) = B at *
  generalize (x >>> ((8 : Int32) &&& 31)) &&& (255 : Int32) = D at *
  generalize x &&& (255 : Int32) = E at *
  have s1 := c_ishl A 24 24 (by decide)
  have s2 := c_ishl B 16 16 (by decide)
  have s3 := c_ishl D 8 8 (by decide)
  have t1 := rng32 (A <<< ((24 : Int32) &&& 31))
  have t2 := rng32 (B <<< ((16 : Int32) &&& 31))
  have t3 := rng32 (D <<< ((8 : Int32) &&& 31))
  have t0 := rng32 x
  have o1 := c_or (A <<< ((24 : Int32) &&& 31)) (B <<< ((16 : Int32) &&& 31)) 24 (by decide) 16777216 (by decide) (by omega) (by omega) (by omega)
  generalize (A <<< ((24 : Int32) &&& 31)) ||| (B <<< ((16 : Int32) &&& 31)) = F at *
  have o2 := c_or F (D <<< ((8 : Int32) &&& 31)) 16 (by decide) 65536 (by decide) (by omega) (by omega) (by omega)
  generalize F ||| (D <<< ((8 : Int32) &&& 31)) = G at *
  have o3 := c_or G E 8 (by decide) 256 (by decide) (by omega) (by omega) (by omega)
  have t4 := rng32 (G ||| E)
  apply Int32.toInt_inj.mp
  omega
theorem pn_2 : plainName "com/example/facetwork/facetwork/image/RgbaImage" = true := by first | (simp [plainName, overriddenIn]; done) | decide +kernel
theorem d2_0 : decode prog_4_method_1_code 0 = .ok (.aload_n 0, 1) := by decide +kernel
theorem d2_1 : decode prog_4_method_1_code 1 = .ok (.invokespecial 1, 3) := by decide +kernel
theorem d2_4 : decode prog_4_method_1_code 4 = .ok (.iload_n 1, 1) := by decide +kernel
theorem d2_5 : decode prog_4_method_1_code 5 = .ok (.ifCond .le 7, 3) := by decide +kernel
theorem d2_8 : decode prog_4_method_1_code 8 = .ok (.iload_n 2, 1) := by decide +kernel
theorem d2_9 : decode prog_4_method_1_code 9 = .ok (.ifCond .gt 18, 3) := by decide +kernel
theorem d2_27 : decode prog_4_method_1_code 27 = .ok (.aload_n 3, 1) := by decide +kernel
theorem d2_28 : decode prog_4_method_1_code 28 = .ok (.arraylength, 1) := by decide +kernel
theorem d2_29 : decode prog_4_method_1_code 29 = .ok (.i2l, 1) := by decide +kernel
theorem d2_30 : decode prog_4_method_1_code 30 = .ok (.iload_n 1, 1) := by decide +kernel
theorem d2_31 : decode prog_4_method_1_code 31 = .ok (.i2l, 1) := by decide +kernel
theorem d2_32 : decode prog_4_method_1_code 32 = .ok (.iload_n 2, 1) := by decide +kernel
theorem d2_33 : decode prog_4_method_1_code 33 = .ok (.i2l, 1) := by decide +kernel
theorem d2_34 : decode prog_4_method_1_code 34 = .ok (.lmul, 1) := by decide +kernel
theorem d2_35 : decode prog_4_method_1_code 35 = .ok (.ldc2_w 16, 3) := by decide +kernel
theorem d2_38 : decode prog_4_method_1_code 38 = .ok (.lmul, 1) := by decide +kernel
theorem d2_39 : decode prog_4_method_1_code 39 = .ok (.lcmp, 1) := by decide +kernel
theorem d2_40 : decode prog_4_method_1_code 40 = .ok (.ifCond .eq 29, 3) := by decide +kernel
theorem d2_69 : decode prog_4_method_1_code 69 = .ok (.aload_n 0, 1) := by decide +kernel
theorem d2_70 : decode prog_4_method_1_code 70 = .ok (.iload_n 1, 1) := by decide +kernel
theorem d2_71 : decode prog_4_method_1_code 71 = .ok (.putfield 21, 3) := by decide +kernel
theorem d2_74 : decode prog_4_method_1_code 74 = .ok (.aload_n 0, 1) := by decide +kernel
theorem d2_75 : decode prog_4_method_1_code 75 = .ok (.iload_n 2, 1) := by decide +kernel
theorem d2_76 : decode prog_4_method_1_code 76 = .ok (.putfield 27, 3) := by decide +kernel
theorem d2_79 : decode prog_4_method_1_code 79 = .ok (.aload_n 0, 1) := by decide +kernel
theorem d2_80 : decode prog_4_method_1_code 80 = .ok (.aload_n 3, 1) := by decide +kernel
theorem d2_81 : decode prog_4_method_1_code 81 = .ok (.invokevirtual 30, 3) := by decide +kernel
theorem d2_84 : decode prog_4_method_1_code 84 = .ok (.checkcast 31, 3) := by decide +kernel
theorem d2_87 : decode prog_4_method_1_code 87 = .ok (.putfield 36, 3) := by decide +kernel
theorem d2_90 : decode prog_4_method_1_code 90 = .ok (.return_, 1) := by decide +kernel
theorem ef_2 (m : MethodId) (a1 : Addr) (p1 : Int32) (p2 : Int32) (p3 : Addr) : entryFrame m #[(.ref a1), (.int p1), (.int p2), (.ref p3)] 4 = mkF m 0 #[.val (.ref a1), .val (.int p1), .val (.int p2), .val (.ref p3)] [] := by first | (simp [entryFrame, mkF, argsToLocals, Value.category]; done) | rfl
def Q2 (Z : State) (a1 : Addr) (p1 : Int32) (p2 : Int32) (p3 : Addr) (kk : ClassId) (nn : Int32) (vs : List Value) (h0 : Heap) (n0 : Nat) (v : Option Value) (h : Heap) (L : List Loc) : Prop := ∃ pa : Addr, v = none ∧ Fr n0 L ∧ Keep h0 h [a1] ∧ h0.size ≤ pa ∧ Fld Z h a1 "com/example/facetwork/facetwork/image/RgbaImage" "width" "I" (.int p1) ∧ Fld Z h a1 "com/example/facetwork/facetwork/image/RgbaImage" "height" "I" (.int p2) ∧ Fld Z h a1 "com/example/facetwork/facetwork/image/RgbaImage" "pixels" "[B" (.ref pa) ∧ Exa Z h pa "[B" ∧ Arv Z h pa kk .byte nn vs (.int (0 : Int32))
set_option maxRecDepth 65536 in
set_option maxHeartbeats 40000000 in
theorem rm2 (l : Launch) (Z : State) (a0 : Array Value) (hw : ∀ d ∈ tables_1, d.before a0 Z = true) (ws : List Jvm.Cond) (a1 : Addr) (p1 : Int32) (p2 : Int32) (p3 : Addr) (kk : ClassId) (nn : Int32) (vs : List Value) (h0 : Heap) (n0 : Nat) (Z0 : n0 ≤ h0.size) (E1 : Exa Z h0 a1 "com/example/facetwork/facetwork/image/RgbaImage") (ga1 : n0 ≤ a1) (F0 : Fld Z h0 a1 "com/example/facetwork/facetwork/image/RgbaImage" "width" "I" (.int (0 : Int32))) (F1 : Fld Z h0 a1 "com/example/facetwork/facetwork/image/RgbaImage" "height" "I" (.int (0 : Int32))) (F2 : Fld Z h0 a1 "com/example/facetwork/facetwork/image/RgbaImage" "pixels" "[B" .null) (E3 : Exa Z h0 p3 "[B") (V0 : Arv Z h0 p3 kk .byte nn vs (.int (0 : Int32))) (n13 : a1 ≠ p3) (hw1 : 0 < p1) (hw2 : 0 < p2) (hq : nn.toInt64 = ((p1.toInt64 * p2.toInt64) * (4 : Int64))) (hcap : nn.toNatClampNeg ≤ 24) :
    MetFree l (⟨"com/example/facetwork/facetwork/image/RgbaImage", "<init>", "(II[B)V"⟩ : MethodName) (head1 (Jvm.Cond.code (⟨"com/example/facetwork/facetwork/image/RgbaImage", "<init>", "(II[B)V"⟩ : MethodName) prog_4_method_1_code 4 none :: ws) ({ frames := 1, cells := 1, slots := 24, locals := 15 } : Room)) (fun a U => a = #[(.ref a1), (.int p1), (.int p2), (.ref p3)] ∧ Z.Warmed39 U.vm ∧ U.heap = h0) (fun _ _ _ _ _ => True) (fun _ U o U' => ∃ v L, o = .returned v ∧ Q2 Z a1 p1 p2 p3 kk nn vs h0 n0 v U'.heap L ∧ FrameEnd U o U' L ({ frames := 1, cells := 1, slots := 24, locals := 15 } : Room).cells ({ frames := 1, cells := 1, slots := 24, locals := 15 } : Room).slots) := by
  refine MetFree.of_bodySF (plainFor_of_name pn_2) hisR ?_
  intro p e s m args below meth c s₁ Bd hml0 hP hK
  obtain ⟨rfl, hZ, hh⟩ := hP
  have hx := Bd.exec
  have hby := Bd.bytes
  have hml : c.maxLocals = 4 := hml0
  have hown : s.vm.findClass "com/example/facetwork/facetwork/image/RgbaImage" = some m.cls := findClass_of_methodNamed Bd.named
  have hnm := (name_of_methodNamed Bd.named Bd.method).1
  have X0 : Stand p l e ({ frames := 1, cells := 1, slots := 24, locals := 15 } : Room) s m #[(.ref a1), (.int p1), (.int p2), (.ref p3)] below meth c s₁ [] 0 0 := Stand.of_body Bd
  have e0 : s₁.heap = h0 := by rw [← hh, Bd.state]; rfl
  have N0 := Fr.nil n0
  have pre0 : ∀ t, Steps p.tables e below (s₁.setTop (mkF m 0 #[.val (.ref a1), .val (.int p1), .val (.int p2), .val (.ref p3)] [])) t → Steps p.tables e below (s₁.setTop (entryFrame m #[(.ref a1), (.int p1), (.int p2), (.ref p3)] 4)) t := fun t k => castTop (ef_2 m a1 p1 p2 p3) k
  have pre1 : ∀ t, Steps p.tables e below (s₁.setTop (mkF m 1 #[.val (.ref a1), .val (.int p1), .val (.int p2), .val (.ref p3)] [(.ref a1)])) t → Steps p.tables e below (s₁.setTop (entryFrame m #[(.ref a1), (.int p1), (.int p2), (.ref p3)] 4)) t := by
    intro t k
    refine pre0 t ?_
    refine XS.aloadN X0.here hx rfl (hb hby d2_0) rfl rfl ?_
    show Steps p.tables e below (s₁.setTop (mkF m 1 #[.val (.ref a1), .val (.int p1), .val (.int p2), .val (.ref p3)] [(.ref a1)])) _
    exact k
  obtain ⟨T2, X2, e2, st2⟩ := initO X0 hx hZ hown (hw _ (List.mem_of_getElem? (i := 11) rfl)) (hw _ (List.mem_of_getElem? (i := 12) rfl)) (hw _ (List.mem_of_getElem? (i := 13) rfl)) e0 (g := (mkF m 1 #[.val (.ref a1), .val (.int p1), .val (.int p2), .val (.ref p3)] [(.ref a1)])) rfl (by rw [hml]; rfl) rfl (hb hby d2_1) (by decide) (W := 0) (by show 2 * 0 + _ ≤ _; exact Nat.le_of_eq rfl) (by decide)
  have pre3 : ∀ t, Steps p.tables e below (T2.setTop (mkF m 4 #[.val (.ref a1), .val (.int p1), .val (.int p2), .val (.ref p3)] [])) t → Steps p.tables e below (s₁.setTop (entryFrame m #[(.ref a1), (.int p1), (.int p2), (.ref p3)] 4)) t := fun t k => pre1 t (st2 t k)
  have pre4 : ∀ t, Steps p.tables e below (T2.setTop (mkF m 28 #[.val (.ref a1), .val (.int p1), .val (.int p2), .val (.ref p3)] [(.ref p3)])) t → Steps p.tables e below (s₁.setTop (entryFrame m #[(.ref a1), (.int p1), (.int p2), (.ref p3)] 4)) t := by
    intro t k
    refine pre3 t ?_
    refine XS.iloadN X2.here hx rfl (hb hby d2_4) rfl ?_
    show Steps p.tables e below (T2.setTop (mkF m 5 #[.val (.ref a1), .val (.int p1), .val (.int p2), .val (.ref p3)] [(.int p1)])) _
    refine XS.ifNo X2.here hx rfl (hb hby d2_5) rfl (XT.i0_le_f hw1) ?_
    show Steps p.tables e below (T2.setTop (mkF m 8 #[.val (.ref a1), .val (.int p1), .val (.int p2), .val (.ref p3)] [])) _
    refine XS.iloadN X2.here hx rfl (hb hby d2_8) rfl ?_
    show Steps p.tables e below (T2.setTop (mkF m 9 #[.val (.ref a1), .val (.int p1), .val (.int p2), .val (.ref p3)] [(.int p2)])) _
    refine XS.ifYes X2.here hx rfl (pc0 := 9) (pc' := 27) rfl (hb hby d2_9) rfl (XT.i0_gt_t hw2) (by decide) (by decide) ?_
    show Steps p.tables e below (T2.setTop (mkF m 27 #[.val (.ref a1), .val (.int p1), .val (.int p2), .val (.ref p3)] [])) _
    refine XS.aloadN X2.here hx rfl (hb hby d2_27) rfl rfl ?_
    show Steps p.tables e below (T2.setTop (mkF m 28 #[.val (.ref a1), .val (.int p1), .val (.int p2), .val (.ref p3)] [(.ref p3)])) _
    exact k
  have K6 : Keep h0 h0 [a1] := (Keep.refl h0 [a1])
  obtain ⟨cc5, Ar5, q1_5, Sz5, q3_5, Hs5, G5⟩ := id V0
  have pre8 : ∀ t, Steps p.tables e below (T2.setTop (mkF m 71 #[.val (.ref a1), .val (.int p1), .val (.int p2), .val (.ref p3)] [(.int p1), (.ref a1)])) t → Steps p.tables e below (s₁.setTop (entryFrame m #[(.ref a1), (.int p1), (.int p2), (.ref p3)] 4)) t := by
    intro t k
    refine pre4 t ?_
    refine X2.arraylength hx (by rw [e2]; exact Ar5.1) (State.isArrayOf_alike hZ.alike Ar5.2.1) (g := (mkF m 28 #[.val (.ref a1), .val (.int p1), .val (.int p2), .val (.ref p3)] [(.ref p3)])) rfl rfl (hb hby d2_28) _ ?_
    rw [len_of Sz5 q3_5]
    show Steps p.tables e below (T2.setTop (mkF m 29 #[.val (.ref a1), .val (.int p1), .val (.int p2), .val (.ref p3)] [(.int nn)])) _
    refine XT.i2l X2.here hx rfl (hb hby d2_29) rfl ?_
    show Steps p.tables e below (T2.setTop (mkF m 30 #[.val (.ref a1), .val (.int p1), .val (.int p2), .val (.ref p3)] [(.long (nn.toInt64))])) _
    refine XS.iloadN X2.here hx rfl (hb hby d2_30) rfl ?_
    show Steps p.tables e below (T2.setTop (mkF m 31 #[.val (.ref a1), .val (.int p1), .val (.int p2), .val (.ref p3)] [(.int p1), (.long (nn.toInt64))])) _
    refine XT.i2l X2.here hx rfl (hb hby d2_31) rfl ?_
    show Steps p.tables e below (T2.setTop (mkF m 32 #[.val (.ref a1), .val (.int p1), .val (.int p2), .val (.ref p3)] [(.long (p1.toInt64)), (.long (nn.toInt64))])) _
    refine XS.iloadN X2.here hx rfl (hb hby d2_32) rfl ?_
    show Steps p.tables e below (T2.setTop (mkF m 33 #[.val (.ref a1), .val (.int p1), .val (.int p2), .val (.ref p3)] [(.int p2), (.long (p1.toInt64)), (.long (nn.toInt64))])) _
    refine XT.i2l X2.here hx rfl (hb hby d2_33) rfl ?_
    show Steps p.tables e below (T2.setTop (mkF m 34 #[.val (.ref a1), .val (.int p1), .val (.int p2), .val (.ref p3)] [(.long (p2.toInt64)), (.long (p1.toInt64)), (.long (nn.toInt64))])) _
    refine XT.lmul X2.here hx rfl (hb hby d2_34) rfl ?_
    show Steps p.tables e below (T2.setTop (mkF m 35 #[.val (.ref a1), .val (.int p1), .val (.int p2), .val (.ref p3)] [(.long ((p1.toInt64) * (p2.toInt64))), (.long (nn.toInt64))])) _
    refine Stand.ldc2J X2 hx hown (mvT hZ (hw _ (List.mem_of_getElem? (i := 14) rfl))) rfl (hb hby d2_35) ?_
    show Steps p.tables e below (T2.setTop (mkF m 38 #[.val (.ref a1), .val (.int p1), .val (.int p2), .val (.ref p3)] [(.long (4 : Int64)), (.long ((p1.toInt64) * (p2.toInt64))), (.long (nn.toInt64))])) _
    refine XT.lmul X2.here hx rfl (hb hby d2_38) rfl ?_
    show Steps p.tables e below (T2.setTop (mkF m 39 #[.val (.ref a1), .val (.int p1), .val (.int p2), .val (.ref p3)] [(.long (((p1.toInt64) * (p2.toInt64)) * (4 : Int64))), (.long (nn.toInt64))])) _
    refine XT.lcmp X2.here hx rfl (hb hby d2_39) rfl ?_
    show Steps p.tables e below (T2.setTop (mkF m 40 #[.val (.ref a1), .val (.int p1), .val (.int p2), .val (.ref p3)] [(.int (XT.cmpL (nn.toInt64) (((p1.toInt64) * (p2.toInt64)) * (4 : Int64))))])) _
    refine XS.ifYes X2.here hx rfl (pc0 := 40) (pc' := 69) rfl (hb hby d2_40) rfl (XT.ll_eq_t hq) (by decide) (by decide) ?_
    show Steps p.tables e below (T2.setTop (mkF m 69 #[.val (.ref a1), .val (.int p1), .val (.int p2), .val (.ref p3)] [])) _
    refine XS.aloadN X2.here hx rfl (hb hby d2_69) rfl rfl ?_
    show Steps p.tables e below (T2.setTop (mkF m 70 #[.val (.ref a1), .val (.int p1), .val (.int p2), .val (.ref p3)] [(.ref a1)])) _
    refine XS.iloadN X2.here hx rfl (hb hby d2_70) rfl ?_
    show Steps p.tables e below (T2.setTop (mkF m 71 #[.val (.ref a1), .val (.int p1), .val (.int p2), .val (.ref p3)] [(.int p1), (.ref a1)])) _
    exact k
  obtain ⟨T9, h9, X9, e9, W9, st9⟩ := putF X2 hx hZ hown (host := "") (Or.inl (hw _ (List.mem_of_getElem? (i := 15) rfl))) Via.refl e2 F0 E1 (Or.inr ⟨(hw _ (List.mem_of_getElem? (i := 16) rfl)), rfl, hnm⟩) (hw _ (List.mem_of_getElem? (i := 6) rfl)) (ty := .int) (by decide) rfl rfl (g := (mkF m 71 #[.val (.ref a1), .val (.int p1), .val (.int p2), .val (.ref p3)] [(.int p1), (.ref a1)])) rfl rfl (hb hby d2_71)
  have N9 := Fr.snoc X9 N0 ga1
  have pre10 : ∀ t, Steps p.tables e below (T9.setTop (mkF m 74 #[.val (.ref a1), .val (.int p1), .val (.int p2), .val (.ref p3)] [])) t → Steps p.tables e below (s₁.setTop (entryFrame m #[(.ref a1), (.int p1), (.int p2), (.ref p3)] 4)) t := fun t k => pre8 t (st9 t k)
  have F11_0 : Fld Z h9 a1 "com/example/facetwork/facetwork/image/RgbaImage" "width" "I" (.int p1) := (F0.same W9)
  have F11_1 : Fld Z h9 a1 "com/example/facetwork/facetwork/image/RgbaImage" "height" "I" (.int (0 : Int32)) := (F1.other W9 (Or.inr (slot_ne (Or.inr (hw _ (List.mem_of_getElem? (i := 18) rfl))) (Or.inr (hw _ (List.mem_of_getElem? (i := 16) rfl))) (by decide) (t := .int) (t' := .int) (by decide) (by decide))))
  have F11_2 : Fld Z h9 a1 "com/example/facetwork/facetwork/image/RgbaImage" "pixels" "[B" .null := (F2.other W9 (Or.inr (slot_ne (Or.inr (hw _ (List.mem_of_getElem? (i := 29) rfl))) (Or.inr (hw _ (List.mem_of_getElem? (i := 16) rfl))) (by decide) (t := (.array .byte)) (t' := .int) (by decide) (by decide))))
  have E11_0 : Exa Z h9 a1 "com/example/facetwork/facetwork/image/RgbaImage" := (E1.wr W9)
  have E11_1 : Exa Z h9 p3 "[B" := (E3.wr W9)
  have V11_0 : Arv Z h9 p3 kk .byte nn vs (.int (0 : Int32)) := (V0.other W9 n13.symm)
  have K11 : Keep h0 h9 [a1] := (K6.wr W9 (Or.inl (List.mem_of_getElem? (i := 0) rfl)))
  have Z11 : n0 ≤ h9.size := (Nat.le_trans Z0 (Nat.le_of_eq W9.size.symm))
  have pre13 : ∀ t, Steps p.tables e below (T9.setTop (mkF m 76 #[.val (.ref a1), .val (.int p1), .val (.int p2), .val (.ref p3)] [(.int p2), (.ref a1)])) t → Steps p.tables e below (s₁.setTop (entryFrame m #[(.ref a1), (.int p1), (.int p2), (.ref p3)] 4)) t := by
    intro t k
    refine pre10 t ?_
    refine XS.aloadN X9.here hx rfl (hb hby d2_74) rfl rfl ?_
    show Steps p.tables e below (T9.setTop (mkF m 75 #[.val (.ref a1), .val (.int p1), .val (.int p2), .val (.ref p3)] [(.ref a1)])) _
    refine XS.iloadN X9.here hx rfl (hb hby d2_75) rfl ?_
    show Steps p.tables e below (T9.setTop (mkF m 76 #[.val (.ref a1), .val (.int p1), .val (.int p2), .val (.ref p3)] [(.int p2), (.ref a1)])) _
    exact k
  obtain ⟨T14, h14, X14, e14, W14, st14⟩ := putF X9 hx hZ hown (host := "") (Or.inl (hw _ (List.mem_of_getElem? (i := 17) rfl))) Via.refl e9 F11_1 E11_0 (Or.inr ⟨(hw _ (List.mem_of_getElem? (i := 18) rfl)), rfl, hnm⟩) (hw _ (List.mem_of_getElem? (i := 6) rfl)) (ty := .int) (by decide) rfl rfl (g := (mkF m 76 #[.val (.ref a1), .val (.int p1), .val (.int p2), .val (.ref p3)] [(.int p2), (.ref a1)])) rfl rfl (hb hby d2_76)
  have N14 := Fr.snoc X14 N9 ga1
  have pre15 : ∀ t, Steps p.tables e below (T14.setTop (mkF m 79 #[.val (.ref a1), .val (.int p1), .val (.int p2), .val (.ref p3)] [])) t → Steps p.tables e below (s₁.setTop (entryFrame m #[(.ref a1), (.int p1), (.int p2), (.ref p3)] 4)) t := fun t k => pre13 t (st14 t k)
  have F16_0 : Fld Z h14 a1 "com/example/facetwork/facetwork/image/RgbaImage" "width" "I" (.int p1) := (F11_0.other W14 (Or.inr (slot_ne (Or.inr (hw _ (List.mem_of_getElem? (i := 16) rfl))) (Or.inr (hw _ (List.mem_of_getElem? (i := 18) rfl))) (by decide) (t := .int) (t' := .int) (by decide) (by decide))))
  have F16_1 : Fld Z h14 a1 "com/example/facetwork/facetwork/image/RgbaImage" "height" "I" (.int p2) := (F11_1.same W14)
  have F16_2 : Fld Z h14 a1 "com/example/facetwork/facetwork/image/RgbaImage" "pixels" "[B" .null := (F11_2.other W14 (Or.inr (slot_ne (Or.inr (hw _ (List.mem_of_getElem? (i := 29) rfl))) (Or.inr (hw _ (List.mem_of_getElem? (i := 18) rfl))) (by decide) (t := (.array .byte)) (t' := .int) (by decide) (by decide))))
  have E16_0 : Exa Z h14 a1 "com/example/facetwork/facetwork/image/RgbaImage" := (E11_0.wr W14)
  have E16_1 : Exa Z h14 p3 "[B" := (E11_1.wr W14)
  have V16_0 : Arv Z h14 p3 kk .byte nn vs (.int (0 : Int32)) := (V11_0.other W14 n13.symm)
  have K16 : Keep h0 h14 [a1] := (K11.wr W14 (Or.inl (List.mem_of_getElem? (i := 0) rfl)))
  have Z16 : n0 ≤ h14.size := (Nat.le_trans Z11 (Nat.le_of_eq W14.size.symm))
  have pre18 : ∀ t, Steps p.tables e below (T14.setTop (mkF m 81 #[.val (.ref a1), .val (.int p1), .val (.int p2), .val (.ref p3)] [(.ref p3), (.ref a1)])) t → Steps p.tables e below (s₁.setTop (entryFrame m #[(.ref a1), (.int p1), (.int p2), (.ref p3)] 4)) t := by
    intro t k
    refine pre15 t ?_
    refine XS.aloadN X14.here hx rfl (hb hby d2_79) rfl rfl ?_
    show Steps p.tables e below (T14.setTop (mkF m 80 #[.val (.ref a1), .val (.int p1), .val (.int p2), .val (.ref p3)] [(.ref a1)])) _
    refine XS.aloadN X14.here hx rfl (hb hby d2_80) rfl rfl ?_
    show Steps p.tables e below (T14.setTop (mkF m 81 #[.val (.ref a1), .val (.int p1), .val (.int p2), .val (.ref p3)] [(.ref p3), (.ref a1)])) _
    exact k
  obtain ⟨T19, h19, X19, e19, E19, Vh19, Ec19, st19⟩ := cloneH X14 hx hZ hown (hw _ (List.mem_of_getElem? (i := 19) rfl)) (hw _ (List.mem_of_getElem? (i := 20) rfl)) (hw _ (List.mem_of_getElem? (i := 24) rfl)) (hw _ (List.mem_of_getElem? (i := 22) rfl)) (hw _ (List.mem_of_getElem? (i := 23) rfl)) (hw _ (List.mem_of_getElem? (i := 25) rfl)) e14 V16_0.arh E16_1 (g := (mkF m 81 #[.val (.ref a1), .val (.int p1), .val (.int p2), .val (.ref p3)] [(.ref p3), (.ref a1)])) rfl (by rw [hml]; rfl) (rest := [(.ref a1)]) rfl (hb hby d2_81) (by decide) (W := 1) (cap := 24) (by show 2 * 0 + _ ≤ _; exact Nat.le_of_eq rfl) (by decide) hcap (by decide) (by decide)
  obtain ⟨pa, gz19⟩ : ∃ z, z = h14.size := ⟨_, rfl⟩
  rw [← gz19] at Vh19 Ec19 st19
  have g_pa : n0 ≤ pa := Nat.le_trans Z16 (Nat.le_of_eq gz19.symm)
  have s_pa : h0.size ≤ pa := Nat.le_trans K16.1 (Nat.le_of_eq gz19.symm)
  have ne_a1_pa : a1 ≠ pa := by rw [gz19]; exact Nat.ne_of_lt F16_0.lt
  have ne_p3_pa : p3 ≠ pa := by rw [gz19]; exact Nat.ne_of_lt E16_1.lt
  have V19 : Arv Z h19 pa kk .byte nn vs (.int (0 : Int32)) := Vh19
  have pre20 : ∀ t, Steps p.tables e below (T19.setTop (mkF m 84 #[.val (.ref a1), .val (.int p1), .val (.int p2), .val (.ref p3)] [(.ref pa), (.ref a1)])) t → Steps p.tables e below (s₁.setTop (entryFrame m #[(.ref a1), (.int p1), (.int p2), (.ref p3)] 4)) t := fun t k => pre18 t (st19 t k)
  have F21_0 : Fld Z h19 a1 "com/example/facetwork/facetwork/image/RgbaImage" "width" "I" (.int p1) := (F16_0.ext E19)
  have F21_1 : Fld Z h19 a1 "com/example/facetwork/facetwork/image/RgbaImage" "height" "I" (.int p2) := (F16_1.ext E19)
  have F21_2 : Fld Z h19 a1 "com/example/facetwork/facetwork/image/RgbaImage" "pixels" "[B" .null := (F16_2.ext E19)
  have E21_0 : Exa Z h19 a1 "com/example/facetwork/facetwork/image/RgbaImage" := (E16_0.ext E19)
  have E21_1 : Exa Z h19 p3 "[B" := (E16_1.ext E19)
  have V21_0 : Arv Z h19 p3 kk .byte nn vs (.int (0 : Int32)) := (V16_0.ext E19)
  have K21 : Keep h0 h19 [a1] := (K16.ext E19)
  have Z21 : n0 ≤ h19.size := (Nat.le_trans Z16 E19.1)
  obtain ⟨T23, X23, e23, st23⟩ := castY X19 hx hZ hown (hw _ (List.mem_of_getElem? (i := 26) rfl)) e19 (Ins.self Ec19) (g := (mkF m 84 #[.val (.ref a1), .val (.int p1), .val (.int p2), .val (.ref p3)] [(.ref pa), (.ref a1)])) rfl rfl (hb hby d2_84)
  have pre24 : ∀ t, Steps p.tables e below (T23.setTop (mkF m 87 #[.val (.ref a1), .val (.int p1), .val (.int p2), .val (.ref p3)] [(.ref pa), (.ref a1)])) t → Steps p.tables e below (s₁.setTop (entryFrame m #[(.ref a1), (.int p1), (.int p2), (.ref p3)] 4)) t := fun t k => pre20 t (st23 t k)
  obtain ⟨T26, h26, X26, e26, W26, st26⟩ := putF X23 hx hZ hown (host := "") (Or.inl (hw _ (List.mem_of_getElem? (i := 28) rfl))) Via.refl e23 F21_2 E21_0 (Or.inr ⟨(hw _ (List.mem_of_getElem? (i := 29) rfl)), rfl, hnm⟩) (hw _ (List.mem_of_getElem? (i := 6) rfl)) (ty := (.array .byte)) (by decide) rfl rfl (g := (mkF m 87 #[.val (.ref a1), .val (.int p1), .val (.int p2), .val (.ref p3)] [(.ref pa), (.ref a1)])) rfl rfl (hb hby d2_87)
  have N26 := Fr.snoc X26 N14 ga1
  have pre27 : ∀ t, Steps p.tables e below (T26.setTop (mkF m 90 #[.val (.ref a1), .val (.int p1), .val (.int p2), .val (.ref p3)] [])) t → Steps p.tables e below (s₁.setTop (entryFrame m #[(.ref a1), (.int p1), (.int p2), (.ref p3)] 4)) t := fun t k => pre24 t (st26 t k)
  have F28_0 : Fld Z h26 a1 "com/example/facetwork/facetwork/image/RgbaImage" "width" "I" (.int p1) := (F21_0.other W26 (Or.inr (slot_ne (Or.inr (hw _ (List.mem_of_getElem? (i := 16) rfl))) (Or.inr (hw _ (List.mem_of_getElem? (i := 29) rfl))) (by decide) (t := .int) (t' := (.array .byte)) (by decide) (by decide))))
  have F28_1 : Fld Z h26 a1 "com/example/facetwork/facetwork/image/RgbaImage" "height" "I" (.int p2) := (F21_1.other W26 (Or.inr (slot_ne (Or.inr (hw _ (List.mem_of_getElem? (i := 18) rfl))) (Or.inr (hw _ (List.mem_of_getElem? (i := 29) rfl))) (by decide) (t := .int) (t' := (.array .byte)) (by decide) (by decide))))
  have F28_2 : Fld Z h26 a1 "com/example/facetwork/facetwork/image/RgbaImage" "pixels" "[B" (.ref pa) := (F21_2.same W26)
  have E28_0 : Exa Z h26 a1 "com/example/facetwork/facetwork/image/RgbaImage" := (E21_0.wr W26)
  have E28_1 : Exa Z h26 p3 "[B" := (E21_1.wr W26)
  have E28_2 : Exa Z h26 pa "[B" := (Ec19.wr W26)
  have V28_0 : Arv Z h26 p3 kk .byte nn vs (.int (0 : Int32)) := (V21_0.other W26 n13.symm)
  have V28_1 : Arv Z h26 pa kk .byte nn vs (.int (0 : Int32)) := (V19.other W26 ne_a1_pa.symm)
  have K28 : Keep h0 h26 [a1] := (K21.wr W26 (Or.inl (List.mem_of_getElem? (i := 0) rfl)))
  have Z28 : n0 ≤ h26.size := (Nat.le_trans Z21 (Nat.le_of_eq W26.size.symm))
  obtain ⟨fs, hr, hrun, hended, hW, hsame⟩ := X26.leave (v := none) (fun _ => rfl)
  refine ⟨_, _, pre27 _ ?_, hrun, hended, _, _, rfl, ?_, ⟨_, rfl⟩, hW, hsame.mono (by decide) (by decide)⟩
  · exact X26.returnOut hx Bd.returns (hb hby d2_90) hr
  · show Q2 Z a1 p1 p2 p3 kk nn vs h0 n0 _ T26.heap _
    rw [e26]
    exact ⟨pa, rfl, N26, K28, s_pa, F28_0, F28_1, F28_2, E28_2, V28_1⟩
theorem pn_1 : plainName "com/example/facetwork/facetwork/image/RgbaImageArgbPinLaw" = true := by first | (simp [plainName, overriddenIn]; done) | decide +kernel
theorem d1_0 : decode method_3_code 0 = .ok (.aload_n 0, 1) := by decide +kernel
theorem d1_1 : decode method_3_code 1 = .ok (.iload_n 1, 1) := by decide +kernel
theorem d1_2 : decode method_3_code 2 = .ok (.iload_n 2, 1) := by decide +kernel
theorem d1_3 : decode method_3_code 3 = .ok (.bipush 16, 2) := by decide +kernel
theorem d1_5 : decode method_3_code 5 = .ok (.ishr, 1) := by decide +kernel
theorem d1_6 : decode method_3_code 6 = .ok (.i2b, 1) := by decide +kernel
theorem d1_7 : decode method_3_code 7 = .ok (.bastore, 1) := by decide +kernel
theorem d1_8 : decode method_3_code 8 = .ok (.aload_n 0, 1) := by decide +kernel
theorem d1_9 : decode method_3_code 9 = .ok (.iload_n 1, 1) := by decide +kernel
theorem d1_10 : decode method_3_code 10 = .ok (.iconst 1, 1) := by decide +kernel
theorem d1_11 : decode method_3_code 11 = .ok (.iadd, 1) := by decide +kernel
theorem d1_12 : decode method_3_code 12 = .ok (.iload_n 2, 1) := by decide +kernel
theorem d1_13 : decode method_3_code 13 = .ok (.bipush 8, 2) := by decide +kernel
theorem d1_15 : decode method_3_code 15 = .ok (.ishr, 1) := by decide +kernel
theorem d1_16 : decode method_3_code 16 = .ok (.i2b, 1) := by decide +kernel
theorem d1_17 : decode method_3_code 17 = .ok (.bastore, 1) := by decide +kernel
theorem d1_18 : decode method_3_code 18 = .ok (.aload_n 0, 1) := by decide +kernel
theorem d1_19 : decode method_3_code 19 = .ok (.iload_n 1, 1) := by decide +kernel
theorem d1_20 : decode method_3_code 20 = .ok (.iconst 2, 1) := by decide +kernel
theorem d1_21 : decode method_3_code 21 = .ok (.iadd, 1) := by decide +kernel
theorem d1_22 : decode method_3_code 22 = .ok (.iload_n 2, 1) := by decide +kernel
theorem d1_23 : decode method_3_code 23 = .ok (.i2b, 1) := by decide +kernel
theorem d1_24 : decode method_3_code 24 = .ok (.bastore, 1) := by decide +kernel
theorem d1_25 : decode method_3_code 25 = .ok (.aload_n 0, 1) := by decide +kernel
theorem d1_26 : decode method_3_code 26 = .ok (.iload_n 1, 1) := by decide +kernel
theorem d1_27 : decode method_3_code 27 = .ok (.iconst 3, 1) := by decide +kernel
theorem d1_28 : decode method_3_code 28 = .ok (.iadd, 1) := by decide +kernel
theorem d1_29 : decode method_3_code 29 = .ok (.iload_n 2, 1) := by decide +kernel
theorem d1_30 : decode method_3_code 30 = .ok (.bipush 24, 2) := by decide +kernel
theorem d1_32 : decode method_3_code 32 = .ok (.iushr, 1) := by decide +kernel
theorem d1_33 : decode method_3_code 33 = .ok (.i2b, 1) := by decide +kernel
theorem d1_34 : decode method_3_code 34 = .ok (.bastore, 1) := by decide +kernel
theorem d1_35 : decode method_3_code 35 = .ok (.return_, 1) := by decide +kernel
theorem ef_1 (m : MethodId) (a1 : Addr) (p1 : Int32) (p2 : Int32) : entryFrame m #[(.ref a1), (.int p1), (.int p2)] 3 = mkF m 0 #[.val (.ref a1), .val (.int p1), .val (.int p2)] [] := by first | (simp [entryFrame, mkF, argsToLocals, Value.category]; done) | rfl
def Q1 (Z : State) (a1 : Addr) (p1 : Int32) (p2 : Int32) (kk : ClassId) (vs : List Value) (ix : Nat) (h0 : Heap) (n0 : Nat) (v : Option Value) (h : Heap) (L : List Loc) : Prop := v = none ∧ Fr n0 L ∧ Keep h0 h [a1] ∧ Arv Z h a1 kk .byte (24 : Int32) ((((vs.set ix (.int (nar .byte ((p2 >>> ((16 : Int32) &&& 31)).toInt8.toInt32)))).set (ix + 1) (.int (nar .byte ((p2 >>> ((8 : Int32) &&& 31)).toInt8.toInt32)))).set (ix + 2) (.int (nar .byte (p2.toInt8.toInt32)))).set (ix + 3) (.int (nar .byte ((XT.ushr p2 (24 : Int32)).toInt8.toInt32)))) (.int (0 : Int32))
set_option maxRecDepth 65536 in
set_option maxHeartbeats 40000000 in
theorem rm1 (l : Launch) (Z : State) (a0 : Array Value) (hw : ∀ d ∈ tables_1, d.before a0 Z = true) (ws : List Jvm.Cond) (a1 : Addr) (p1 : Int32) (p2 : Int32) (kk : ClassId) (vs : List Value) (ix : Nat) (h0 : Heap) (n0 : Nat) (Z0 : n0 ≤ h0.size) (V0 : Arv Z h0 a1 kk .byte (24 : Int32) vs (.int (0 : Int32))) (ga1 : n0 ≤ a1) (hl : ix + 3 < vs.length) (hj0 : ¬ p1 < 0 ∧ p1 < (24 : Int32)) (hj1 : ¬ (p1 + (1 : Int32)) < 0 ∧ (p1 + (1 : Int32)) < (24 : Int32)) (hj2 : ¬ (p1 + (2 : Int32)) < 0 ∧ (p1 + (2 : Int32)) < (24 : Int32)) (hj3 : ¬ (p1 + (3 : Int32)) < 0 ∧ (p1 + (3 : Int32)) < (24 : Int32)) (hx0 : p1.toNatClampNeg = ix + 0) (hx1 : (p1 + (1 : Int32)).toNatClampNeg = ix + 1) (hx2 : (p1 + (2 : Int32)).toNatClampNeg = ix + 2) (hx3 : (p1 + (3 : Int32)).toNatClampNeg = ix + 3) :
    MetFree l (⟨"com/example/facetwork/facetwork/image/RgbaImageArgbPinLaw", "put", "([BII)V"⟩ : MethodName) (head1 (Jvm.Cond.code (⟨"com/example/facetwork/facetwork/image/RgbaImageArgbPinLaw", "put", "([BII)V"⟩ : MethodName) method_3_code 3 none :: ws) ({ frames := 0, cells := 0, slots := 0, locals := 0 } : Room)) (fun a U => a = #[(.ref a1), (.int p1), (.int p2)] ∧ Z.Warmed39 U.vm ∧ U.heap = h0) (fun _ _ _ _ _ => True) (fun _ U o U' => ∃ v L, o = .returned v ∧ Q1 Z a1 p1 p2 kk vs ix h0 n0 v U'.heap L ∧ FrameEnd U o U' L ({ frames := 0, cells := 0, slots := 0, locals := 0 } : Room).cells ({ frames := 0, cells := 0, slots := 0, locals := 0 } : Room).slots) := by
  refine MetFree.of_bodySF (plainFor_of_name pn_1) hisR ?_
  intro p e s m args below meth c s₁ Bd hml0 hP hK
  obtain ⟨rfl, hZ, hh⟩ := hP
  have hx := Bd.exec
  have hby := Bd.bytes
  have hml : c.maxLocals = 3 := hml0
  have hown : s.vm.findClass "com/example/facetwork/facetwork/image/RgbaImageArgbPinLaw" = some m.cls := findClass_of_methodNamed Bd.named
  have hnm := (name_of_methodNamed Bd.named Bd.method).1
  have X0 : Stand p l e ({ frames := 0, cells := 0, slots := 0, locals := 0 } : Room) s m #[(.ref a1), (.int p1), (.int p2)] below meth c s₁ [] 0 0 := Stand.of_body Bd
  have e0 : s₁.heap = h0 := by rw [← hh, Bd.state]; rfl
  have N0 := Fr.nil n0
  have pre0 : ∀ t, Steps p.tables e below (s₁.setTop (mkF m 0 #[.val (.ref a1), .val (.int p1), .val (.int p2)] [])) t → Steps p.tables e below (s₁.setTop (entryFrame m #[(.ref a1), (.int p1), (.int p2)] 3)) t := fun t k => castTop (ef_1 m a1 p1 p2) k
  have pre1 : ∀ t, Steps p.tables e below (s₁.setTop (mkF m 7 #[.val (.ref a1), .val (.int p1), .val (.int p2)] [(.int ((p2 >>> ((16 : Int32) &&& 31)).toInt8.toInt32)), (.int p1), (.ref a1)])) t → Steps p.tables e below (s₁.setTop (entryFrame m #[(.ref a1), (.int p1), (.int p2)] 3)) t := by
    intro t k
    refine pre0 t ?_
    refine XS.aloadN X0.here hx rfl (hb hby d1_0) rfl rfl ?_
    show Steps p.tables e below (s₁.setTop (mkF m 1 #[.val (.ref a1), .val (.int p1), .val (.int p2)] [(.ref a1)])) _
    refine XS.iloadN X0.here hx rfl (hb hby d1_1) rfl ?_
    show Steps p.tables e below (s₁.setTop (mkF m 2 #[.val (.ref a1), .val (.int p1), .val (.int p2)] [(.int p1), (.ref a1)])) _
    refine XS.iloadN X0.here hx rfl (hb hby d1_2) rfl ?_
    show Steps p.tables e below (s₁.setTop (mkF m 3 #[.val (.ref a1), .val (.int p1), .val (.int p2)] [(.int p2), (.int p1), (.ref a1)])) _
    refine XS.bipush X0.here hx rfl (hb hby d1_3) ?_
    show Steps p.tables e below (s₁.setTop (mkF m 5 #[.val (.ref a1), .val (.int p1), .val (.int p2)] [(.int (16 : Int32)), (.int p2), (.int p1), (.ref a1)])) _
    refine XT.ishr X0.here hx rfl (hb hby d1_5) rfl ?_
    show Steps p.tables e below (s₁.setTop (mkF m 6 #[.val (.ref a1), .val (.int p1), .val (.int p2)] [(.int (p2 >>> ((16 : Int32) &&& 31))), (.int p1), (.ref a1)])) _
    refine XT.i2b X0.here hx rfl (hb hby d1_6) rfl ?_
    show Steps p.tables e below (s₁.setTop (mkF m 7 #[.val (.ref a1), .val (.int p1), .val (.int p2)] [(.int ((p2 >>> ((16 : Int32) &&& 31)).toInt8.toInt32)), (.int p1), (.ref a1)])) _
    exact k
  have K3 : Keep h0 h0 [a1] := (Keep.refl h0 [a1])
  obtain ⟨cc2, Ar2, q1_2, Sz2, q3_2, Hs2, G2⟩ := id V0
  have hin2 : ¬ (p1 < 0 ∨ cc2.slots.size ≤ (p1 : Int32).toNatClampNeg) := inb_of Sz2 hj0
  obtain ⟨T2, h2, X2, e2, W2, st2⟩ := stB X0 hx hZ e0 Ar2 hin2 (g := (mkF m 7 #[.val (.ref a1), .val (.int p1), .val (.int p2)] [(.int ((p2 >>> ((16 : Int32) &&& 31)).toInt8.toInt32)), (.int p1), (.ref a1)])) rfl rfl (hb hby d1_7)
  have N2 := Fr.snoc X2 N0 ga1
  have V2 : Arv Z h2 a1 kk .byte (24 : Int32) (vs.set ix (.int (nar .byte ((p2 >>> ((16 : Int32) &&& 31)).toInt8.toInt32)))) (.int (0 : Int32)) := Arv.set Ar2 q1_2 Sz2 q3_2 Hs2 G2 (fits_nar_byte _) W2 ix hx0 (by first | omega | (simp only [List.length_set]; omega))
  have pre4 : ∀ t, Steps p.tables e below (T2.setTop (mkF m 8 #[.val (.ref a1), .val (.int p1), .val (.int p2)] [])) t → Steps p.tables e below (s₁.setTop (entryFrame m #[(.ref a1), (.int p1), (.int p2)] 3)) t := fun t k => pre1 t (st2 t k)
  have K5 : Keep h0 h2 [a1] := (K3.wr W2 (Or.inl (List.mem_of_getElem? (i := 0) rfl)))
  have Z5 : n0 ≤ h2.size := (Nat.le_trans Z0 (Nat.le_of_eq W2.size.symm))
  have pre6 : ∀ t, Steps p.tables e below (T2.setTop (mkF m 17 #[.val (.ref a1), .val (.int p1), .val (.int p2)] [(.int ((p2 >>> ((8 : Int32) &&& 31)).toInt8.toInt32)), (.int (p1 + (1 : Int32))), (.ref a1)])) t → Steps p.tables e below (s₁.setTop (entryFrame m #[(.ref a1), (.int p1), (.int p2)] 3)) t := by
    intro t k
    refine pre4 t ?_
    refine XS.aloadN X2.here hx rfl (hb hby d1_8) rfl rfl ?_
    show Steps p.tables e below (T2.setTop (mkF m 9 #[.val (.ref a1), .val (.int p1), .val (.int p2)] [(.ref a1)])) _
    refine XS.iloadN X2.here hx rfl (hb hby d1_9) rfl ?_
    show Steps p.tables e below (T2.setTop (mkF m 10 #[.val (.ref a1), .val (.int p1), .val (.int p2)] [(.int p1), (.ref a1)])) _
    refine XS.iconst X2.here hx rfl (hb hby d1_10) ?_
    show Steps p.tables e below (T2.setTop (mkF m 11 #[.val (.ref a1), .val (.int p1), .val (.int p2)] [(.int (1 : Int32)), (.int p1), (.ref a1)])) _
    refine XS.iadd X2.here hx rfl (hb hby d1_11) rfl ?_
    show Steps p.tables e below (T2.setTop (mkF m 12 #[.val (.ref a1), .val (.int p1), .val (.int p2)] [(.int (p1 + (1 : Int32))), (.ref a1)])) _
    refine XS.iloadN X2.here hx rfl (hb hby d1_12) rfl ?_
    show Steps p.tables e below (T2.setTop (mkF m 13 #[.val (.ref a1), .val (.int p1), .val (.int p2)] [(.int p2), (.int (p1 + (1 : Int32))), (.ref a1)])) _
    refine XS.bipush X2.here hx rfl (hb hby d1_13) ?_
    show Steps p.tables e below (T2.setTop (mkF m 15 #[.val (.ref a1), .val (.int p1), .val (.int p2)] [(.int (8 : Int32)), (.int p2), (.int (p1 + (1 : Int32))), (.ref a1)])) _
    refine XT.ishr X2.here hx rfl (hb hby d1_15) rfl ?_
    show Steps p.tables e below (T2.setTop (mkF m 16 #[.val (.ref a1), .val (.int p1), .val (.int p2)] [(.int (p2 >>> ((8 : Int32) &&& 31))), (.int (p1 + (1 : Int32))), (.ref a1)])) _
    refine XT.i2b X2.here hx rfl (hb hby d1_16) rfl ?_
    show Steps p.tables e below (T2.setTop (mkF m 17 #[.val (.ref a1), .val (.int p1), .val (.int p2)] [(.int ((p2 >>> ((8 : Int32) &&& 31)).toInt8.toInt32)), (.int (p1 + (1 : Int32))), (.ref a1)])) _
    exact k
  obtain ⟨cc7, Ar7, q1_7, Sz7, q3_7, Hs7, G7⟩ := id V2
  have hin7 : ¬ ((p1 + (1 : Int32)) < 0 ∨ cc7.slots.size ≤ ((p1 + (1 : Int32)) : Int32).toNatClampNeg) := inb_of Sz7 hj1
  obtain ⟨T7, h7, X7, e7, W7, st7⟩ := stB X2 hx hZ e2 Ar7 hin7 (g := (mkF m 17 #[.val (.ref a1), .val (.int p1), .val (.int p2)] [(.int ((p2 >>> ((8 : Int32) &&& 31)).toInt8.toInt32)), (.int (p1 + (1 : Int32))), (.ref a1)])) rfl rfl (hb hby d1_17)
  have N7 := Fr.snoc X7 N2 ga1
  have V7 : Arv Z h7 a1 kk .byte (24 : Int32) ((vs.set ix (.int (nar .byte ((p2 >>> ((16 : Int32) &&& 31)).toInt8.toInt32)))).set (ix + 1) (.int (nar .byte ((p2 >>> ((8 : Int32) &&& 31)).toInt8.toInt32)))) (.int (0 : Int32)) := Arv.set Ar7 q1_7 Sz7 q3_7 Hs7 G7 (fits_nar_byte _) W7 (ix + 1) hx1 (by first | omega | (simp only [List.length_set]; omega))
  have pre9 : ∀ t, Steps p.tables e below (T7.setTop (mkF m 18 #[.val (.ref a1), .val (.int p1), .val (.int p2)] [])) t → Steps p.tables e below (s₁.setTop (entryFrame m #[(.ref a1), (.int p1), (.int p2)] 3)) t := fun t k => pre6 t (st7 t k)
  have K10 : Keep h0 h7 [a1] := (K5.wr W7 (Or.inl (List.mem_of_getElem? (i := 0) rfl)))
  have Z10 : n0 ≤ h7.size := (Nat.le_trans Z5 (Nat.le_of_eq W7.size.symm))
  have pre11 : ∀ t, Steps p.tables e below (T7.setTop (mkF m 24 #[.val (.ref a1), .val (.int p1), .val (.int p2)] [(.int (p2.toInt8.toInt32)), (.int (p1 + (2 : Int32))), (.ref a1)])) t → Steps p.tables e below (s₁.setTop (entryFrame m #[(.ref a1), (.int p1), (.int p2)] 3)) t := by
    intro t k
    refine pre9 t ?_
    refine XS.aloadN X7.here hx rfl (hb hby d1_18) rfl rfl ?_
    show Steps p.tables e below (T7.setTop (mkF m 19 #[.val (.ref a1), .val (.int p1), .val (.int p2)] [(.ref a1)])) _
    refine XS.iloadN X7.here hx rfl (hb hby d1_19) rfl ?_
    show Steps p.tables e below (T7.setTop (mkF m 20 #[.val (.ref a1), .val (.int p1), .val (.int p2)] [(.int p1), (.ref a1)])) _
    refine XS.iconst X7.here hx rfl (hb hby d1_20) ?_
    show Steps p.tables e below (T7.setTop (mkF m 21 #[.val (.ref a1), .val (.int p1), .val (.int p2)] [(.int (2 : Int32)), (.int p1), (.ref a1)])) _
    refine XS.iadd X7.here hx rfl (hb hby d1_21) rfl ?_
    show Steps p.tables e below (T7.setTop (mkF m 22 #[.val (.ref a1), .val (.int p1), .val (.int p2)] [(.int (p1 + (2 : Int32))), (.ref a1)])) _
    refine XS.iloadN X7.here hx rfl (hb hby d1_22) rfl ?_
    show Steps p.tables e below (T7.setTop (mkF m 23 #[.val (.ref a1), .val (.int p1), .val (.int p2)] [(.int p2), (.int (p1 + (2 : Int32))), (.ref a1)])) _
    refine XT.i2b X7.here hx rfl (hb hby d1_23) rfl ?_
    show Steps p.tables e below (T7.setTop (mkF m 24 #[.val (.ref a1), .val (.int p1), .val (.int p2)] [(.int (p2.toInt8.toInt32)), (.int (p1 + (2 : Int32))), (.ref a1)])) _
    exact k
  obtain ⟨cc12, Ar12, q1_12, Sz12, q3_12, Hs12, G12⟩ := id V7
  have hin12 : ¬ ((p1 + (2 : Int32)) < 0 ∨ cc12.slots.size ≤ ((p1 + (2 : Int32)) : Int32).toNatClampNeg) := inb_of Sz12 hj2
  obtain ⟨T12, h12, X12, e12, W12, st12⟩ := stB X7 hx hZ e7 Ar12 hin12 (g := (mkF m 24 #[.val (.ref a1), .val (.int p1), .val (.int p2)] [(.int (p2.toInt8.toInt32)), (.int (p1 + (2 : Int32))), (.ref a1)])) rfl rfl (hb hby d1_24)
  have N12 := Fr.snoc X12 N7 ga1
  have V12 : Arv Z h12 a1 kk .byte (24 : Int32) (((vs.set ix (.int (nar .byte ((p2 >>> ((16 : Int32) &&& 31)).toInt8.toInt32)))).set (ix + 1) (.int (nar .byte ((p2 >>> ((8 : Int32) &&& 31)).toInt8.toInt32)))).set (ix + 2) (.int (nar .byte (p2.toInt8.toInt32)))) (.int (0 : Int32)) := Arv.set Ar12 q1_12 Sz12 q3_12 Hs12 G12 (fits_nar_byte _) W12 (ix + 2) hx2 (by first | omega | (simp only [List.length_set]; omega))
  have pre14 : ∀ t, Steps p.tables e below (T12.setTop (mkF m 25 #[.val (.ref a1), .val (.int p1), .val (.int p2)] [])) t → Steps p.tables e below (s₁.setTop (entryFrame m #[(.ref a1), (.int p1), (.int p2)] 3)) t := fun t k => pre11 t (st12 t k)
  have K15 : Keep h0 h12 [a1] := (K10.wr W12 (Or.inl (List.mem_of_getElem? (i := 0) rfl)))
  have Z15 : n0 ≤ h12.size := (Nat.le_trans Z10 (Nat.le_of_eq W12.size.symm))
  have pre16 : ∀ t, Steps p.tables e below (T12.setTop (mkF m 34 #[.val (.ref a1), .val (.int p1), .val (.int p2)] [(.int ((XT.ushr p2 (24 : Int32)).toInt8.toInt32)), (.int (p1 + (3 : Int32))), (.ref a1)])) t → Steps p.tables e below (s₁.setTop (entryFrame m #[(.ref a1), (.int p1), (.int p2)] 3)) t := by
    intro t k
    refine pre14 t ?_
    refine XS.aloadN X12.here hx rfl (hb hby d1_25) rfl rfl ?_
    show Steps p.tables e below (T12.setTop (mkF m 26 #[.val (.ref a1), .val (.int p1), .val (.int p2)] [(.ref a1)])) _
    refine XS.iloadN X12.here hx rfl (hb hby d1_26) rfl ?_
    show Steps p.tables e below (T12.setTop (mkF m 27 #[.val (.ref a1), .val (.int p1), .val (.int p2)] [(.int p1), (.ref a1)])) _
    refine XS.iconst X12.here hx rfl (hb hby d1_27) ?_
    show Steps p.tables e below (T12.setTop (mkF m 28 #[.val (.ref a1), .val (.int p1), .val (.int p2)] [(.int (3 : Int32)), (.int p1), (.ref a1)])) _
    refine XS.iadd X12.here hx rfl (hb hby d1_28) rfl ?_
    show Steps p.tables e below (T12.setTop (mkF m 29 #[.val (.ref a1), .val (.int p1), .val (.int p2)] [(.int (p1 + (3 : Int32))), (.ref a1)])) _
    refine XS.iloadN X12.here hx rfl (hb hby d1_29) rfl ?_
    show Steps p.tables e below (T12.setTop (mkF m 30 #[.val (.ref a1), .val (.int p1), .val (.int p2)] [(.int p2), (.int (p1 + (3 : Int32))), (.ref a1)])) _
    refine XS.bipush X12.here hx rfl (hb hby d1_30) ?_
    show Steps p.tables e below (T12.setTop (mkF m 32 #[.val (.ref a1), .val (.int p1), .val (.int p2)] [(.int (24 : Int32)), (.int p2), (.int (p1 + (3 : Int32))), (.ref a1)])) _
    refine XT.iushr X12.here hx rfl (hb hby d1_32) rfl ?_
    show Steps p.tables e below (T12.setTop (mkF m 33 #[.val (.ref a1), .val (.int p1), .val (.int p2)] [(.int (XT.ushr p2 (24 : Int32))), (.int (p1 + (3 : Int32))), (.ref a1)])) _
    refine XT.i2b X12.here hx rfl (hb hby d1_33) rfl ?_
    show Steps p.tables e below (T12.setTop (mkF m 34 #[.val (.ref a1), .val (.int p1), .val (.int p2)] [(.int ((XT.ushr p2 (24 : Int32)).toInt8.toInt32)), (.int (p1 + (3 : Int32))), (.ref a1)])) _
    exact k
  obtain ⟨cc17, Ar17, q1_17, Sz17, q3_17, Hs17, G17⟩ := id V12
  have hin17 : ¬ ((p1 + (3 : Int32)) < 0 ∨ cc17.slots.size ≤ ((p1 + (3 : Int32)) : Int32).toNatClampNeg) := inb_of Sz17 hj3
  obtain ⟨T17, h17, X17, e17, W17, st17⟩ := stB X12 hx hZ e12 Ar17 hin17 (g := (mkF m 34 #[.val (.ref a1), .val (.int p1), .val (.int p2)] [(.int ((XT.ushr p2 (24 : Int32)).toInt8.toInt32)), (.int (p1 + (3 : Int32))), (.ref a1)])) rfl rfl (hb hby d1_34)
  have N17 := Fr.snoc X17 N12 ga1
  have V17 : Arv Z h17 a1 kk .byte (24 : Int32) ((((vs.set ix (.int (nar .byte ((p2 >>> ((16 : Int32) &&& 31)).toInt8.toInt32)))).set (ix + 1) (.int (nar .byte ((p2 >>> ((8 : Int32) &&& 31)).toInt8.toInt32)))).set (ix + 2) (.int (nar .byte (p2.toInt8.toInt32)))).set (ix + 3) (.int (nar .byte ((XT.ushr p2 (24 : Int32)).toInt8.toInt32)))) (.int (0 : Int32)) := Arv.set Ar17 q1_17 Sz17 q3_17 Hs17 G17 (fits_nar_byte _) W17 (ix + 3) hx3 (by first | omega | (simp only [List.length_set]; omega))
  have pre19 : ∀ t, Steps p.tables e below (T17.setTop (mkF m 35 #[.val (.ref a1), .val (.int p1), .val (.int p2)] [])) t → Steps p.tables e below (s₁.setTop (entryFrame m #[(.ref a1), (.int p1), (.int p2)] 3)) t := fun t k => pre16 t (st17 t k)
  have K20 : Keep h0 h17 [a1] := (K15.wr W17 (Or.inl (List.mem_of_getElem? (i := 0) rfl)))
  have Z20 : n0 ≤ h17.size := (Nat.le_trans Z15 (Nat.le_of_eq W17.size.symm))
  obtain ⟨fs, hr, hrun, hended, hW, hsame⟩ := X17.leave (v := none) (fun _ => rfl)
  refine ⟨_, _, pre19 _ ?_, hrun, hended, _, _, rfl, ?_, ⟨_, rfl⟩, hW, hsame.mono (by decide) (by decide)⟩
  · exact X17.returnOut hx Bd.returns (hb hby d1_35) hr
  · show Q1 Z a1 p1 p2 kk vs ix h0 n0 _ T17.heap _
    rw [e17]
    exact ⟨rfl, N17, K20, V17⟩
theorem pn_4 : plainName "com/example/facetwork/facetwork/image/RgbaImage" = true := by first | (simp [plainName, overriddenIn]; done) | decide +kernel
theorem d4_0 : decode prog_4_method_6_code 0 = .ok (.iload_n 1, 1) := by decide +kernel
theorem d4_1 : decode prog_4_method_6_code 1 = .ok (.ifCond .lt 23, 3) := by decide +kernel
theorem d4_4 : decode prog_4_method_6_code 4 = .ok (.iload_n 1, 1) := by decide +kernel
theorem d4_5 : decode prog_4_method_6_code 5 = .ok (.aload_n 0, 1) := by decide +kernel
theorem d4_6 : decode prog_4_method_6_code 6 = .ok (.getfield 21, 3) := by decide +kernel
theorem d4_9 : decode prog_4_method_6_code 9 = .ok (.if_icmp .ge 15, 3) := by decide +kernel
theorem d4_12 : decode prog_4_method_6_code 12 = .ok (.iload_n 2, 1) := by decide +kernel
theorem d4_13 : decode prog_4_method_6_code 13 = .ok (.ifCond .lt 11, 3) := by decide +kernel
theorem d4_16 : decode prog_4_method_6_code 16 = .ok (.iload_n 2, 1) := by decide +kernel
theorem d4_17 : decode prog_4_method_6_code 17 = .ok (.aload_n 0, 1) := by decide +kernel
theorem d4_18 : decode prog_4_method_6_code 18 = .ok (.getfield 27, 3) := by decide +kernel
theorem d4_21 : decode prog_4_method_6_code 21 = .ok (.if_icmp .lt 26, 3) := by decide +kernel
theorem d4_47 : decode prog_4_method_6_code 47 = .ok (.iload_n 2, 1) := by decide +kernel
theorem d4_48 : decode prog_4_method_6_code 48 = .ok (.aload_n 0, 1) := by decide +kernel
theorem d4_49 : decode prog_4_method_6_code 49 = .ok (.getfield 21, 3) := by decide +kernel
theorem d4_52 : decode prog_4_method_6_code 52 = .ok (.imul, 1) := by decide +kernel
theorem d4_53 : decode prog_4_method_6_code 53 = .ok (.iload_n 1, 1) := by decide +kernel
theorem d4_54 : decode prog_4_method_6_code 54 = .ok (.iadd, 1) := by decide +kernel
theorem d4_55 : decode prog_4_method_6_code 55 = .ok (.iconst 4, 1) := by decide +kernel
theorem d4_56 : decode prog_4_method_6_code 56 = .ok (.imul, 1) := by decide +kernel
theorem d4_57 : decode prog_4_method_6_code 57 = .ok (.istore_n 3, 1) := by decide +kernel
theorem d4_58 : decode prog_4_method_6_code 58 = .ok (.aload_n 0, 1) := by decide +kernel
theorem d4_59 : decode prog_4_method_6_code 59 = .ok (.getfield 36, 3) := by decide +kernel
theorem d4_62 : decode prog_4_method_6_code 62 = .ok (.iload_n 3, 1) := by decide +kernel
theorem d4_63 : decode prog_4_method_6_code 63 = .ok (.iconst 3, 1) := by decide +kernel
theorem d4_64 : decode prog_4_method_6_code 64 = .ok (.iadd, 1) := by decide +kernel
theorem d4_65 : decode prog_4_method_6_code 65 = .ok (.baload, 1) := by decide +kernel
theorem d4_66 : decode prog_4_method_6_code 66 = .ok (.sipush 255, 3) := by decide +kernel
theorem d4_69 : decode prog_4_method_6_code 69 = .ok (.iand, 1) := by decide +kernel
theorem d4_70 : decode prog_4_method_6_code 70 = .ok (.bipush 24, 2) := by decide +kernel
theorem d4_72 : decode prog_4_method_6_code 72 = .ok (.ishl, 1) := by decide +kernel
theorem d4_73 : decode prog_4_method_6_code 73 = .ok (.aload_n 0, 1) := by decide +kernel
theorem d4_74 : decode prog_4_method_6_code 74 = .ok (.getfield 36, 3) := by decide +kernel
theorem d4_77 : decode prog_4_method_6_code 77 = .ok (.iload_n 3, 1) := by decide +kernel
theorem d4_78 : decode prog_4_method_6_code 78 = .ok (.baload, 1) := by decide +kernel
theorem d4_79 : decode prog_4_method_6_code 79 = .ok (.sipush 255, 3) := by decide +kernel
theorem d4_82 : decode prog_4_method_6_code 82 = .ok (.iand, 1) := by decide +kernel
theorem d4_83 : decode prog_4_method_6_code 83 = .ok (.bipush 16, 2) := by decide +kernel
theorem d4_85 : decode prog_4_method_6_code 85 = .ok (.ishl, 1) := by decide +kernel
theorem d4_86 : decode prog_4_method_6_code 86 = .ok (.ior, 1) := by decide +kernel
theorem d4_87 : decode prog_4_method_6_code 87 = .ok (.aload_n 0, 1) := by decide +kernel
theorem d4_88 : decode prog_4_method_6_code 88 = .ok (.getfield 36, 3) := by decide +kernel
theorem d4_91 : decode prog_4_method_6_code 91 = .ok (.iload_n 3, 1) := by decide +kernel
theorem d4_92 : decode prog_4_method_6_code 92 = .ok (.iconst 1, 1) := by decide +kernel
theorem d4_93 : decode prog_4_method_6_code 93 = .ok (.iadd, 1) := by decide +kernel
theorem d4_94 : decode prog_4_method_6_code 94 = .ok (.baload, 1) := by decide +kernel
theorem d4_95 : decode prog_4_method_6_code 95 = .ok (.sipush 255, 3) := by decide +kernel
theorem d4_98 : decode prog_4_method_6_code 98 = .ok (.iand, 1) := by decide +kernel
theorem d4_99 : decode prog_4_method_6_code 99 = .ok (.bipush 8, 2) := by decide +kernel
theorem d4_101 : decode prog_4_method_6_code 101 = .ok (.ishl, 1) := by decide +kernel
theorem d4_102 : decode prog_4_method_6_code 102 = .ok (.ior, 1) := by decide +kernel
theorem d4_103 : decode prog_4_method_6_code 103 = .ok (.aload_n 0, 1) := by decide +kernel
theorem d4_104 : decode prog_4_method_6_code 104 = .ok (.getfield 36, 3) := by decide +kernel
theorem d4_107 : decode prog_4_method_6_code 107 = .ok (.iload_n 3, 1) := by decide +kernel
theorem d4_108 : decode prog_4_method_6_code 108 = .ok (.iconst 2, 1) := by decide +kernel
theorem d4_109 : decode prog_4_method_6_code 109 = .ok (.iadd, 1) := by decide +kernel
theorem d4_110 : decode prog_4_method_6_code 110 = .ok (.baload, 1) := by decide +kernel
theorem d4_111 : decode prog_4_method_6_code 111 = .ok (.sipush 255, 3) := by decide +kernel
theorem d4_114 : decode prog_4_method_6_code 114 = .ok (.iand, 1) := by decide +kernel
theorem d4_115 : decode prog_4_method_6_code 115 = .ok (.ior, 1) := by decide +kernel
theorem d4_116 : decode prog_4_method_6_code 116 = .ok (.ireturn, 1) := by decide +kernel
theorem ef_4 (m : MethodId) (a1 : Addr) (p1 : Int32) (p2 : Int32) : entryFrame m #[(.ref a1), (.int p1), (.int p2)] 4 = mkF m 0 #[.val (.ref a1), .val (.int p1), .val (.int p2), .unset] [] := by first | (simp [entryFrame, mkF, argsToLocals, Value.category]; done) | rfl
def Q4 (Z : State) (a1 : Addr) (p1 : Int32) (p2 : Int32) (q1 : Int32) (q2 : Int32) (pa : Addr) (kk : ClassId) (vs : List Value) (r3 : Int32) (r0 : Int32) (r1 : Int32) (r2 : Int32) (h0 : Heap) (n0 : Nat) (v : Option Value) (h : Heap) (L : List Loc) : Prop := v = some (.int (own_px r3 r0 r1 r2)) ∧ Fr n0 L ∧ h = h0
set_option maxRecDepth 65536 in
set_option maxHeartbeats 40000000 in
theorem rm4 (l : Launch) (Z : State) (a0 : Array Value) (hw : ∀ d ∈ tables_1, d.before a0 Z = true) (ws : List Jvm.Cond) (a1 : Addr) (p1 : Int32) (p2 : Int32) (q1 : Int32) (q2 : Int32) (pa : Addr) (kk : ClassId) (vs : List Value) (r3 : Int32) (r0 : Int32) (r1 : Int32) (r2 : Int32) (h0 : Heap) (n0 : Nat) (Z0 : n0 ≤ h0.size) (F0 : Fld Z h0 a1 "com/example/facetwork/facetwork/image/RgbaImage" "width" "I" (.int q1)) (F1 : Fld Z h0 a1 "com/example/facetwork/facetwork/image/RgbaImage" "height" "I" (.int q2)) (F2 : Fld Z h0 a1 "com/example/facetwork/facetwork/image/RgbaImage" "pixels" "[B" (.ref pa)) (V0 : Arv Z h0 pa kk .byte (24 : Int32) vs (.int (0 : Int32))) (hc1 : ¬ p1 < 0) (hc2 : p1 < q1) (hc3 : ¬ p2 < 0) (hc4 : p2 < q2) (hj0 : ¬ ((((p2 * q1) + p1) * (4 : Int32)) + (3 : Int32)) < 0 ∧ ((((p2 * q1) + p1) * (4 : Int32)) + (3 : Int32)) < (24 : Int32)) (hj1 : ¬ (((p2 * q1) + p1) * (4 : Int32)) < 0 ∧ (((p2 * q1) + p1) * (4 : Int32)) < (24 : Int32)) (hj2 : ¬ ((((p2 * q1) + p1) * (4 : Int32)) + (1 : Int32)) < 0 ∧ ((((p2 * q1) + p1) * (4 : Int32)) + (1 : Int32)) < (24 : Int32)) (hj3 : ¬ ((((p2 * q1) + p1) * (4 : Int32)) + (2 : Int32)) < 0 ∧ ((((p2 * q1) + p1) * (4 : Int32)) + (2 : Int32)) < (24 : Int32)) (hv0 : vs.getD ((((p2 * q1) + p1) * (4 : Int32)) + (3 : Int32)).toNatClampNeg (.int (0 : Int32)) = .int r3) (hv1 : vs.getD (((p2 * q1) + p1) * (4 : Int32)).toNatClampNeg (.int (0 : Int32)) = .int r0) (hv2 : vs.getD ((((p2 * q1) + p1) * (4 : Int32)) + (1 : Int32)).toNatClampNeg (.int (0 : Int32)) = .int r1) (hv3 : vs.getD ((((p2 * q1) + p1) * (4 : Int32)) + (2 : Int32)).toNatClampNeg (.int (0 : Int32)) = .int r2) :
    MetFree l (⟨"com/example/facetwork/facetwork/image/RgbaImage", "argb", "(II)I"⟩ : MethodName) (head1 (Jvm.Cond.code (⟨"com/example/facetwork/facetwork/image/RgbaImage", "argb", "(II)I"⟩ : MethodName) prog_4_method_6_code 4 (some .int) :: ws) ({ frames := 0, cells := 0, slots := 0, locals := 0 } : Room)) (fun a U => a = #[(.ref a1), (.int p1), (.int p2)] ∧ Z.Warmed39 U.vm ∧ U.heap = h0) (fun _ _ _ _ _ => True) (fun _ U o U' => ∃ v L, o = .returned v ∧ Q4 Z a1 p1 p2 q1 q2 pa kk vs r3 r0 r1 r2 h0 n0 v U'.heap L ∧ FrameEnd U o U' L ({ frames := 0, cells := 0, slots := 0, locals := 0 } : Room).cells ({ frames := 0, cells := 0, slots := 0, locals := 0 } : Room).slots) := by
  refine MetFree.of_bodySF (plainFor_of_name pn_4) hisR ?_
  intro p e s m args below meth c s₁ Bd hml0 hP hK
  obtain ⟨rfl, hZ, hh⟩ := hP
  have hx := Bd.exec
  have hby := Bd.bytes
  have hml : c.maxLocals = 4 := hml0
  have hown : s.vm.findClass "com/example/facetwork/facetwork/image/RgbaImage" = some m.cls := findClass_of_methodNamed Bd.named
  have hnm := (name_of_methodNamed Bd.named Bd.method).1
  have X0 : Stand p l e ({ frames := 0, cells := 0, slots := 0, locals := 0 } : Room) s m #[(.ref a1), (.int p1), (.int p2)] below meth c s₁ [] 0 0 := Stand.of_body Bd
  have e0 : s₁.heap = h0 := by rw [← hh, Bd.state]; rfl
  have N0 := Fr.nil n0
  have pre0 : ∀ t, Steps p.tables e below (s₁.setTop (mkF m 0 #[.val (.ref a1), .val (.int p1), .val (.int p2), .unset] [])) t → Steps p.tables e below (s₁.setTop (entryFrame m #[(.ref a1), (.int p1), (.int p2)] 4)) t := fun t k => castTop (ef_4 m a1 p1 p2) k
  have pre1 : ∀ t, Steps p.tables e below (s₁.setTop (mkF m 6 #[.val (.ref a1), .val (.int p1), .val (.int p2), .unset] [(.ref a1), (.int p1)])) t → Steps p.tables e below (s₁.setTop (entryFrame m #[(.ref a1), (.int p1), (.int p2)] 4)) t := by
    intro t k
    refine pre0 t ?_
    refine XS.iloadN X0.here hx rfl (hb hby d4_0) rfl ?_
    show Steps p.tables e below (s₁.setTop (mkF m 1 #[.val (.ref a1), .val (.int p1), .val (.int p2), .unset] [(.int p1)])) _
    refine XS.ifNo X0.here hx rfl (hb hby d4_1) rfl (XT.i0_lt_f hc1) ?_
    show Steps p.tables e below (s₁.setTop (mkF m 4 #[.val (.ref a1), .val (.int p1), .val (.int p2), .unset] [])) _
    refine XS.iloadN X0.here hx rfl (hb hby d4_4) rfl ?_
    show Steps p.tables e below (s₁.setTop (mkF m 5 #[.val (.ref a1), .val (.int p1), .val (.int p2), .unset] [(.int p1)])) _
    refine XS.aloadN X0.here hx rfl (hb hby d4_5) rfl rfl ?_
    show Steps p.tables e below (s₁.setTop (mkF m 6 #[.val (.ref a1), .val (.int p1), .val (.int p2), .unset] [(.ref a1), (.int p1)])) _
    exact k
  obtain ⟨T2, X2, e2, st2⟩ := getF X0 hx hZ hown (host := "") (Or.inl (hw _ (List.mem_of_getElem? (i := 15) rfl))) Via.refl e0 F0 (g := (mkF m 6 #[.val (.ref a1), .val (.int p1), .val (.int p2), .unset] [(.ref a1), (.int p1)])) rfl rfl (hb hby d4_6)
  have pre3 : ∀ t, Steps p.tables e below (T2.setTop (mkF m 9 #[.val (.ref a1), .val (.int p1), .val (.int p2), .unset] [(.int q1), (.int p1)])) t → Steps p.tables e below (s₁.setTop (entryFrame m #[(.ref a1), (.int p1), (.int p2)] 4)) t := fun t k => pre1 t (st2 t k)
  have pre4 : ∀ t, Steps p.tables e below (T2.setTop (mkF m 18 #[.val (.ref a1), .val (.int p1), .val (.int p2), .unset] [(.ref a1), (.int p2)])) t → Steps p.tables e below (s₁.setTop (entryFrame m #[(.ref a1), (.int p1), (.int p2)] 4)) t := by
    intro t k
    refine pre3 t ?_
    refine XS.icmpNo X2.here hx rfl (hb hby d4_9) rfl (XT.ii_ge_f hc2) ?_
    show Steps p.tables e below (T2.setTop (mkF m 12 #[.val (.ref a1), .val (.int p1), .val (.int p2), .unset] [])) _
    refine XS.iloadN X2.here hx rfl (hb hby d4_12) rfl ?_
    show Steps p.tables e below (T2.setTop (mkF m 13 #[.val (.ref a1), .val (.int p1), .val (.int p2), .unset] [(.int p2)])) _
    refine XS.ifNo X2.here hx rfl (hb hby d4_13) rfl (XT.i0_lt_f hc3) ?_
    show Steps p.tables e below (T2.setTop (mkF m 16 #[.val (.ref a1), .val (.int p1), .val (.int p2), .unset] [])) _
    refine XS.iloadN X2.here hx rfl (hb hby d4_16) rfl ?_
    show Steps p.tables e below (T2.setTop (mkF m 17 #[.val (.ref a1), .val (.int p1), .val (.int p2), .unset] [(.int p2)])) _
    refine XS.aloadN X2.here hx rfl (hb hby d4_17) rfl rfl ?_
    show Steps p.tables e below (T2.setTop (mkF m 18 #[.val (.ref a1), .val (.int p1), .val (.int p2), .unset] [(.ref a1), (.int p2)])) _
    exact k
  obtain ⟨T5, X5, e5, st5⟩ := getF X2 hx hZ hown (host := "") (Or.inl (hw _ (List.mem_of_getElem? (i := 17) rfl))) Via.refl e2 F1 (g := (mkF m 18 #[.val (.ref a1), .val (.int p1), .val (.int p2), .unset] [(.ref a1), (.int p2)])) rfl rfl (hb hby d4_18)
  have pre6 : ∀ t, Steps p.tables e below (T5.setTop (mkF m 21 #[.val (.ref a1), .val (.int p1), .val (.int p2), .unset] [(.int q2), (.int p2)])) t → Steps p.tables e below (s₁.setTop (entryFrame m #[(.ref a1), (.int p1), (.int p2)] 4)) t := fun t k => pre4 t (st5 t k)
  have pre7 : ∀ t, Steps p.tables e below (T5.setTop (mkF m 49 #[.val (.ref a1), .val (.int p1), .val (.int p2), .unset] [(.ref a1), (.int p2)])) t → Steps p.tables e below (s₁.setTop (entryFrame m #[(.ref a1), (.int p1), (.int p2)] 4)) t := by
    intro t k
    refine pre6 t ?_
    refine XS.icmpYes X5.here hx rfl (pc0 := 21) (pc' := 47) rfl (hb hby d4_21) rfl (XT.ii_lt_t hc4) (by decide) (by decide) ?_
    show Steps p.tables e below (T5.setTop (mkF m 47 #[.val (.ref a1), .val (.int p1), .val (.int p2), .unset] [])) _
    refine XS.iloadN X5.here hx rfl (hb hby d4_47) rfl ?_
    show Steps p.tables e below (T5.setTop (mkF m 48 #[.val (.ref a1), .val (.int p1), .val (.int p2), .unset] [(.int p2)])) _
    refine XS.aloadN X5.here hx rfl (hb hby d4_48) rfl rfl ?_
    show Steps p.tables e below (T5.setTop (mkF m 49 #[.val (.ref a1), .val (.int p1), .val (.int p2), .unset] [(.ref a1), (.int p2)])) _
    exact k
  obtain ⟨T8, X8, e8, st8⟩ := getF X5 hx hZ hown (host := "") (Or.inl (hw _ (List.mem_of_getElem? (i := 15) rfl))) Via.refl e5 F0 (g := (mkF m 49 #[.val (.ref a1), .val (.int p1), .val (.int p2), .unset] [(.ref a1), (.int p2)])) rfl rfl (hb hby d4_49)
  have pre9 : ∀ t, Steps p.tables e below (T8.setTop (mkF m 52 #[.val (.ref a1), .val (.int p1), .val (.int p2), .unset] [(.int q1), (.int p2)])) t → Steps p.tables e below (s₁.setTop (entryFrame m #[(.ref a1), (.int p1), (.int p2)] 4)) t := fun t k => pre7 t (st8 t k)
  have pre10 : ∀ t, Steps p.tables e below (T8.setTop (mkF m 59 #[.val (.ref a1), .val (.int p1), .val (.int p2), .val (.int (((p2 * q1) + p1) * (4 : Int32)))] [(.ref a1)])) t → Steps p.tables e below (s₁.setTop (entryFrame m #[(.ref a1), (.int p1), (.int p2)] 4)) t := by
    intro t k
    refine pre9 t ?_
    refine XS.imul X8.here hx rfl (hb hby d4_52) rfl ?_
    show Steps p.tables e below (T8.setTop (mkF m 53 #[.val (.ref a1), .val (.int p1), .val (.int p2), .unset] [(.int (p2 * q1))])) _
    refine XS.iloadN X8.here hx rfl (hb hby d4_53) rfl ?_
    show Steps p.tables e below (T8.setTop (mkF m 54 #[.val (.ref a1), .val (.int p1), .val (.int p2), .unset] [(.int p1), (.int (p2 * q1))])) _
    refine XS.iadd X8.here hx rfl (hb hby d4_54) rfl ?_
    show Steps p.tables e below (T8.setTop (mkF m 55 #[.val (.ref a1), .val (.int p1), .val (.int p2), .unset] [(.int ((p2 * q1) + p1))])) _
    refine XS.iconst X8.here hx rfl (hb hby d4_55) ?_
    show Steps p.tables e below (T8.setTop (mkF m 56 #[.val (.ref a1), .val (.int p1), .val (.int p2), .unset] [(.int (4 : Int32)), (.int ((p2 * q1) + p1))])) _
    refine XS.imul X8.here hx rfl (hb hby d4_56) rfl ?_
    show Steps p.tables e below (T8.setTop (mkF m 57 #[.val (.ref a1), .val (.int p1), .val (.int p2), .unset] [(.int (((p2 * q1) + p1) * (4 : Int32)))])) _
    refine XS.istoreN X8.here hx rfl (hb hby d4_57) rfl (l' := #[.val (.ref a1), .val (.int p1), .val (.int p2), .val (.int (((p2 * q1) + p1) * (4 : Int32)))]) rfl ?_
    show Steps p.tables e below (T8.setTop (mkF m 58 #[.val (.ref a1), .val (.int p1), .val (.int p2), .val (.int (((p2 * q1) + p1) * (4 : Int32)))] [])) _
    refine XS.aloadN X8.here hx rfl (hb hby d4_58) rfl rfl ?_
    show Steps p.tables e below (T8.setTop (mkF m 59 #[.val (.ref a1), .val (.int p1), .val (.int p2), .val (.int (((p2 * q1) + p1) * (4 : Int32)))] [(.ref a1)])) _
    exact k
  obtain ⟨T11, X11, e11, st11⟩ := getF X8 hx hZ hown (host := "") (Or.inl (hw _ (List.mem_of_getElem? (i := 28) rfl))) Via.refl e8 F2 (g := (mkF m 59 #[.val (.ref a1), .val (.int p1), .val (.int p2), .val (.int (((p2 * q1) + p1) * (4 : Int32)))] [(.ref a1)])) rfl rfl (hb hby d4_59)
  have pre12 : ∀ t, Steps p.tables e below (T11.setTop (mkF m 62 #[.val (.ref a1), .val (.int p1), .val (.int p2), .val (.int (((p2 * q1) + p1) * (4 : Int32)))] [(.ref pa)])) t → Steps p.tables e below (s₁.setTop (entryFrame m #[(.ref a1), (.int p1), (.int p2)] 4)) t := fun t k => pre10 t (st11 t k)
  have pre13 : ∀ t, Steps p.tables e below (T11.setTop (mkF m 65 #[.val (.ref a1), .val (.int p1), .val (.int p2), .val (.int (((p2 * q1) + p1) * (4 : Int32)))] [(.int ((((p2 * q1) + p1) * (4 : Int32)) + (3 : Int32))), (.ref pa)])) t → Steps p.tables e below (s₁.setTop (entryFrame m #[(.ref a1), (.int p1), (.int p2)] 4)) t := by
    intro t k
    refine pre12 t ?_
    refine XS.iloadN X11.here hx rfl (hb hby d4_62) rfl ?_
    show Steps p.tables e below (T11.setTop (mkF m 63 #[.val (.ref a1), .val (.int p1), .val (.int p2), .val (.int (((p2 * q1) + p1) * (4 : Int32)))] [(.int (((p2 * q1) + p1) * (4 : Int32))), (.ref pa)])) _
    refine XS.iconst X11.here hx rfl (hb hby d4_63) ?_
    show Steps p.tables e below (T11.setTop (mkF m 64 #[.val (.ref a1), .val (.int p1), .val (.int p2), .val (.int (((p2 * q1) + p1) * (4 : Int32)))] [(.int (3 : Int32)), (.int (((p2 * q1) + p1) * (4 : Int32))), (.ref pa)])) _
    refine XS.iadd X11.here hx rfl (hb hby d4_64) rfl ?_
    show Steps p.tables e below (T11.setTop (mkF m 65 #[.val (.ref a1), .val (.int p1), .val (.int p2), .val (.int (((p2 * q1) + p1) * (4 : Int32)))] [(.int ((((p2 * q1) + p1) * (4 : Int32)) + (3 : Int32))), (.ref pa)])) _
    exact k
  obtain ⟨cc14, Ar14, q1_14, Sz14, q3_14, Hs14, G14⟩ := id V0
  have hin14 : ¬ (((((p2 * q1) + p1) * (4 : Int32)) + (3 : Int32)) < 0 ∨ cc14.slots.size ≤ (((((p2 * q1) + p1) * (4 : Int32)) + (3 : Int32)) : Int32).toNatClampNeg) := inb_of Sz14 hj0
  have hat14 : cc14.slots[(((((p2 * q1) + p1) * (4 : Int32)) + (3 : Int32)) : Int32).toNatClampNeg]? = some (.int r3) := Hs14.at hin14 hv0
  have pre16 : ∀ t, Steps p.tables e below (T11.setTop (mkF m 74 #[.val (.ref a1), .val (.int p1), .val (.int p2), .val (.int (((p2 * q1) + p1) * (4 : Int32)))] [(.ref a1), (.int ((r3 &&& (255 : Int32)) <<< ((24 : Int32) &&& 31)))])) t → Steps p.tables e below (s₁.setTop (entryFrame m #[(.ref a1), (.int p1), (.int p2)] 4)) t := by
    intro t k
    refine pre13 t ?_
    refine X11.baloadBytes hx (j := ((((p2 * q1) + p1) * (4 : Int32)) + (3 : Int32))) (v := (.int r3)) (by rw [e11]; exact Ar14.1) (State.isArrayOf_alike hZ.alike Ar14.2.1) Ar14.2.2 hin14 hat14 (g := (mkF m 65 #[.val (.ref a1), .val (.int p1), .val (.int p2), .val (.int (((p2 * q1) + p1) * (4 : Int32)))] [(.int ((((p2 * q1) + p1) * (4 : Int32)) + (3 : Int32))), (.ref pa)])) rfl rfl (hb hby d4_65) _ ?_
    show Steps p.tables e below (T11.setTop (mkF m 66 #[.val (.ref a1), .val (.int p1), .val (.int p2), .val (.int (((p2 * q1) + p1) * (4 : Int32)))] [(.int r3)])) _
    refine XS.sipush X11.here hx rfl (hb hby d4_66) ?_
    show Steps p.tables e below (T11.setTop (mkF m 69 #[.val (.ref a1), .val (.int p1), .val (.int p2), .val (.int (((p2 * q1) + p1) * (4 : Int32)))] [(.int (255 : Int32)), (.int r3)])) _
    refine XS.iand X11.here hx rfl (hb hby d4_69) rfl ?_
    show Steps p.tables e below (T11.setTop (mkF m 70 #[.val (.ref a1), .val (.int p1), .val (.int p2), .val (.int (((p2 * q1) + p1) * (4 : Int32)))] [(.int (r3 &&& (255 : Int32)))])) _
    refine XS.bipush X11.here hx rfl (hb hby d4_70) ?_
    show Steps p.tables e below (T11.setTop (mkF m 72 #[.val (.ref a1), .val (.int p1), .val (.int p2), .val (.int (((p2 * q1) + p1) * (4 : Int32)))] [(.int (24 : Int32)), (.int (r3 &&& (255 : Int32)))])) _
    refine XT.ishl X11.here hx rfl (hb hby d4_72) rfl ?_
    show Steps p.tables e below (T11.setTop (mkF m 73 #[.val (.ref a1), .val (.int p1), .val (.int p2), .val (.int (((p2 * q1) + p1) * (4 : Int32)))] [(.int ((r3 &&& (255 : Int32)) <<< ((24 : Int32) &&& 31)))])) _
    refine XS.aloadN X11.here hx rfl (hb hby d4_73) rfl rfl ?_
    show Steps p.tables e below (T11.setTop (mkF m 74 #[.val (.ref a1), .val (.int p1), .val (.int p2), .val (.int (((p2 * q1) + p1) * (4 : Int32)))] [(.ref a1), (.int ((r3 &&& (255 : Int32)) <<< ((24 : Int32) &&& 31)))])) _
    exact k
  obtain ⟨T17, X17, e17, st17⟩ := getF X11 hx hZ hown (host := "") (Or.inl (hw _ (List.mem_of_getElem? (i := 28) rfl))) Via.refl e11 F2 (g := (mkF m 74 #[.val (.ref a1), .val (.int p1), .val (.int p2), .val (.int (((p2 * q1) + p1) * (4 : Int32)))] [(.ref a1), (.int ((r3 &&& (255 : Int32)) <<< ((24 : Int32) &&& 31)))])) rfl rfl (hb hby d4_74)
  have pre18 : ∀ t, Steps p.tables e below (T17.setTop (mkF m 77 #[.val (.ref a1), .val (.int p1), .val (.int p2), .val (.int (((p2 * q1) + p1) * (4 : Int32)))] [(.ref pa), (.int ((r3 &&& (255 : Int32)) <<< ((24 : Int32) &&& 31)))])) t → Steps p.tables e below (s₁.setTop (entryFrame m #[(.ref a1), (.int p1), (.int p2)] 4)) t := fun t k => pre16 t (st17 t k)
  have pre19 : ∀ t, Steps p.tables e below (T17.setTop (mkF m 78 #[.val (.ref a1), .val (.int p1), .val (.int p2), .val (.int (((p2 * q1) + p1) * (4 : Int32)))] [(.int (((p2 * q1) + p1) * (4 : Int32))), (.ref pa), (.int ((r3 &&& (255 : Int32)) <<< ((24 : Int32) &&& 31)))])) t → Steps p.tables e below (s₁.setTop (entryFrame m #[(.ref a1), (.int p1), (.int p2)] 4)) t := by
    intro t k
    refine pre18 t ?_
    refine XS.iloadN X17.here hx rfl (hb hby d4_77) rfl ?_
    show Steps p.tables e below (T17.setTop (mkF m 78 #[.val (.ref a1), .val (.int p1), .val (.int p2), .val (.int (((p2 * q1) + p1) * (4 : Int32)))] [(.int (((p2 * q1) + p1) * (4 : Int32))), (.ref pa), (.int ((r3 &&& (255 : Int32)) <<< ((24 : Int32) &&& 31)))])) _
    exact k
  obtain ⟨cc20, Ar20, q1_20, Sz20, q3_20, Hs20, G20⟩ := id V0
  have hin20 : ¬ ((((p2 * q1) + p1) * (4 : Int32)) < 0 ∨ cc20.slots.size ≤ ((((p2 * q1) + p1) * (4 : Int32)) : Int32).toNatClampNeg) := inb_of Sz20 hj1
  have hat20 : cc20.slots[((((p2 * q1) + p1) * (4 : Int32)) : Int32).toNatClampNeg]? = some (.int r0) := Hs20.at hin20 hv1
  have pre22 : ∀ t, Steps p.tables e below (T17.setTop (mkF m 88 #[.val (.ref a1), .val (.int p1), .val (.int p2), .val (.int (((p2 * q1) + p1) * (4 : Int32)))] [(.ref a1), (.int (((r3 &&& (255 : Int32)) <<< ((24 : Int32) &&& 31)) ||| ((r0 &&& (255 : Int32)) <<< ((16 : Int32) &&& 31))))])) t → Steps p.tables e below (s₁.setTop (entryFrame m #[(.ref a1), (.int p1), (.int p2)] 4)) t := by
    intro t k
    refine pre19 t ?_
    refine X17.baloadBytes hx (j := (((p2 * q1) + p1) * (4 : Int32))) (v := (.int r0)) (by rw [e17]; exact Ar20.1) (State.isArrayOf_alike hZ.alike Ar20.2.1) Ar20.2.2 hin20 hat20 (g := (mkF m 78 #[.val (.ref a1), .val (.int p1), .val (.int p2), .val (.int (((p2 * q1) + p1) * (4 : Int32)))] [(.int (((p2 * q1) + p1) * (4 : Int32))), (.ref pa), (.int ((r3 &&& (255 : Int32)) <<< ((24 : Int32) &&& 31)))])) rfl rfl (hb hby d4_78) _ ?_
    show Steps p.tables e below (T17.setTop (mkF m 79 #[.val (.ref a1), .val (.int p1), .val (.int p2), .val (.int (((p2 * q1) + p1) * (4 : Int32)))] [(.int r0), (.int ((r3 &&& (255 : Int32)) <<< ((24 : Int32) &&& 31)))])) _
    refine XS.sipush X17.here hx rfl (hb hby d4_79) ?_
    show Steps p.tables e below (T17.setTop (mkF m 82 #[.val (.ref a1), .val (.int p1), .val (.int p2), .val (.int (((p2 * q1) + p1) * (4 : Int32)))] [(.int (255 : Int32)), (.int r0), (.int ((r3 &&& (255 : Int32)) <<< ((24 : Int32) &&& 31)))])) _
    refine XS.iand X17.here hx rfl (hb hby d4_82) rfl ?_
    show Steps p.tables e below (T17.setTop (mkF m 83 #[.val (.ref a1), .val (.int p1), .val (.int p2), .val (.int (((p2 * q1) + p1) * (4 : Int32)))] [(.int (r0 &&& (255 : Int32))), (.int ((r3 &&& (255 : Int32)) <<< ((24 : Int32) &&& 31)))])) _
    refine XS.bipush X17.here hx rfl (hb hby d4_83) ?_
    show Steps p.tables e below (T17.setTop (mkF m 85 #[.val (.ref a1), .val (.int p1), .val (.int p2), .val (.int (((p2 * q1) + p1) * (4 : Int32)))] [(.int (16 : Int32)), (.int (r0 &&& (255 : Int32))), (.int ((r3 &&& (255 : Int32)) <<< ((24 : Int32) &&& 31)))])) _
    refine XT.ishl X17.here hx rfl (hb hby d4_85) rfl ?_
    show Steps p.tables e below (T17.setTop (mkF m 86 #[.val (.ref a1), .val (.int p1), .val (.int p2), .val (.int (((p2 * q1) + p1) * (4 : Int32)))] [(.int ((r0 &&& (255 : Int32)) <<< ((16 : Int32) &&& 31))), (.int ((r3 &&& (255 : Int32)) <<< ((24 : Int32) &&& 31)))])) _
    refine XT.ior X17.here hx rfl (hb hby d4_86) rfl ?_
    show Steps p.tables e below (T17.setTop (mkF m 87 #[.val (.ref a1), .val (.int p1), .val (.int p2), .val (.int (((p2 * q1) + p1) * (4 : Int32)))] [(.int (((r3 &&& (255 : Int32)) <<< ((24 : Int32) &&& 31)) ||| ((r0 &&& (255 : Int32)) <<< ((16 : Int32) &&& 31))))])) _
    refine XS.aloadN X17.here hx rfl (hb hby d4_87) rfl rfl ?_
    show Steps p.tables e below (T17.setTop (mkF m 88 #[.val (.ref a1), .val (.int p1), .val (.int p2), .val (.int (((p2 * q1) + p1) * (4 : Int32)))] [(.ref a1), (.int (((r3 &&& (255 : Int32)) <<< ((24 : Int32) &&& 31)) ||| ((r0 &&& (255 : Int32)) <<< ((16 : Int32) &&& 31))))])) _
    exact k
  obtain ⟨T23, X23, e23, st23⟩ := getF X17 hx hZ hown (host := "") (Or.inl (hw _ (List.mem_of_getElem? (i := 28) rfl))) Via.refl e17 F2 (g := (mkF m 88 #[.val (.ref a1), .val (.int p1), .val (.int p2), .val (.int (((p2 * q1) + p1) * (4 : Int32)))] [(.ref a1), (.int (((r3 &&& (255 : Int32)) <<< ((24 : Int32) &&& 31)) ||| ((r0 &&& (255 : Int32)) <<< ((16 : Int32) &&& 31))))])) rfl rfl (hb hby d4_88)
  have pre24 : ∀ t, Steps p.tables e below (T23.setTop (mkF m 91 #[.val (.ref a1), .val (.int p1), .val (.int p2), .val (.int (((p2 * q1) + p1) * (4 : Int32)))] [(.ref pa), (.int (((r3 &&& (255 : Int32)) <<< ((24 : Int32) &&& 31)) ||| ((r0 &&& (255 : Int32)) <<< ((16 : Int32) &&& 31))))])) t → Steps p.tables e below (s₁.setTop (entryFrame m #[(.ref a1), (.int p1), (.int p2)] 4)) t := fun t k => pre22 t (st23 t k)
  have pre25 : ∀ t, Steps p.tables e below (T23.setTop (mkF m 94 #[.val (.ref a1), .val (.int p1), .val (.int p2), .val (.int (((p2 * q1) + p1) * (4 : Int32)))] [(.int ((((p2 * q1) + p1) * (4 : Int32)) + (1 : Int32))), (.ref pa), (.int (((r3 &&& (255 : Int32)) <<< ((24 : Int32) &&& 31)) ||| ((r0 &&& (255 : Int32)) <<< ((16 : Int32) &&& 31))))])) t → Steps p.tables e below (s₁.setTop (entryFrame m #[(.ref a1), (.int p1), (.int p2)] 4)) t := by
    intro t k
    refine pre24 t ?_
    refine XS.iloadN X23.here hx rfl (hb hby d4_91) rfl ?_
    show Steps p.tables e below (T23.setTop (mkF m 92 #[.val (.ref a1), .val (.int p1), .val (.int p2), .val (.int (((p2 * q1) + p1) * (4 : Int32)))] [(.int (((p2 * q1) + p1) * (4 : Int32))), (.ref pa), (.int (((r3 &&& (255 : Int32)) <<< ((24 : Int32) &&& 31)) ||| ((r0 &&& (255 : Int32)) <<< ((16 : Int32) &&& 31))))])) _
    refine XS.iconst X23.here hx rfl (hb hby d4_92) ?_
    show Steps p.tables e below (T23.setTop (mkF m 93 #[.val (.ref a1), .val (.int p1), .val (.int p2), .val (.int (((p2 * q1) + p1) * (4 : Int32)))] [(.int (1 : Int32)), (.int (((p2 * q1) + p1) * (4 : Int32))), (.ref pa), (.int (((r3 &&& (255 : Int32)) <<< ((24 : Int32) &&& 31)) ||| ((r0 &&& (255 : Int32)) <<< ((16 : Int32) &&& 31))))])) _
    refine XS.iadd X23.here hx rfl (hb hby d4_93) rfl ?_
    show Steps p.tables e below (T23.setTop (mkF m 94 #[.val (.ref a1), .val (.int p1), .val (.int p2), .val (.int (((p2 * q1) + p1) * (4 : Int32)))] [(.int ((((p2 * q1) + p1) * (4 : Int32)) + (1 : Int32))), (.ref pa), (.int (((r3 &&& (255 : Int32)) <<< ((24 : Int32) &&& 31)) ||| ((r0 &&& (255 : Int32)) <<< ((16 : Int32) &&& 31))))])) _
    exact k
  obtain ⟨cc26, Ar26, q1_26, Sz26, q3_26, Hs26, G26⟩ := id V0
  have hin26 : ¬ (((((p2 * q1) + p1) * (4 : Int32)) + (1 : Int32)) < 0 ∨ cc26.slots.size ≤ (((((p2 * q1) + p1) * (4 : Int32)) + (1 : Int32)) : Int32).toNatClampNeg) := inb_of Sz26 hj2
  have hat26 : cc26.slots[(((((p2 * q1) + p1) * (4 : Int32)) + (1 : Int32)) : Int32).toNatClampNeg]? = some (.int r1) := Hs26.at hin26 hv2
  have pre28 : ∀ t, Steps p.tables e below (T23.setTop (mkF m 104 #[.val (.ref a1), .val (.int p1), .val (.int p2), .val (.int (((p2 * q1) + p1) * (4 : Int32)))] [(.ref a1), (.int ((((r3 &&& (255 : Int32)) <<< ((24 : Int32) &&& 31)) ||| ((r0 &&& (255 : Int32)) <<< ((16 : Int32) &&& 31))) ||| ((r1 &&& (255 : Int32)) <<< ((8 : Int32) &&& 31))))])) t → Steps p.tables e below (s₁.setTop (entryFrame m #[(.ref a1), (.int p1), (.int p2)] 4)) t := by
    intro t k
    refine pre25 t ?_
    refine X23.baloadBytes hx (j := ((((p2 * q1) + p1) * (4 : Int32)) + (1 : Int32))) (v := (.int r1)) (by rw [e23]; exact Ar26.1) (State.isArrayOf_alike hZ.alike Ar26.2.1) Ar26.2.2 hin26 hat26 (g := (mkF m 94 #[.val (.ref a1), .val (.int p1), .val (.int p2), .val (.int (((p2 * q1) + p1) * (4 : Int32)))] [(.int ((((p2 * q1) + p1) * (4 : Int32)) + (1 : Int32))), (.ref pa), (.int (((r3 &&& (255 : Int32)) <<< ((24 : Int32) &&& 31)) ||| ((r0 &&& (255 : Int32)) <<< ((16 : Int32) &&& 31))))])) rfl rfl (hb hby d4_94) _ ?_
    show Steps p.tables e below (T23.setTop (mkF m 95 #[.val (.ref a1), .val (.int p1), .val (.int p2), .val (.int (((p2 * q1) + p1) * (4 : Int32)))] [(.int r1), (.int (((r3 &&& (255 : Int32)) <<< ((24 : Int32) &&& 31)) ||| ((r0 &&& (255 : Int32)) <<< ((16 : Int32) &&& 31))))])) _
    refine XS.sipush X23.here hx rfl (hb hby d4_95) ?_
    show Steps p.tables e below (T23.setTop (mkF m 98 #[.val (.ref a1), .val (.int p1), .val (.int p2), .val (.int (((p2 * q1) + p1) * (4 : Int32)))] [(.int (255 : Int32)), (.int r1), (.int (((r3 &&& (255 : Int32)) <<< ((24 : Int32) &&& 31)) ||| ((r0 &&& (255 : Int32)) <<< ((16 : Int32) &&& 31))))])) _
    refine XS.iand X23.here hx rfl (hb hby d4_98) rfl ?_
    show Steps p.tables e below (T23.setTop (mkF m 99 #[.val (.ref a1), .val (.int p1), .val (.int p2), .val (.int (((p2 * q1) + p1) * (4 : Int32)))] [(.int (r1 &&& (255 : Int32))), (.int (((r3 &&& (255 : Int32)) <<< ((24 : Int32) &&& 31)) ||| ((r0 &&& (255 : Int32)) <<< ((16 : Int32) &&& 31))))])) _
    refine XS.bipush X23.here hx rfl (hb hby d4_99) ?_
    show Steps p.tables e below (T23.setTop (mkF m 101 #[.val (.ref a1), .val (.int p1), .val (.int p2), .val (.int (((p2 * q1) + p1) * (4 : Int32)))] [(.int (8 : Int32)), (.int (r1 &&& (255 : Int32))), (.int (((r3 &&& (255 : Int32)) <<< ((24 : Int32) &&& 31)) ||| ((r0 &&& (255 : Int32)) <<< ((16 : Int32) &&& 31))))])) _
    refine XT.ishl X23.here hx rfl (hb hby d4_101) rfl ?_
    show Steps p.tables e below (T23.setTop (mkF m 102 #[.val (.ref a1), .val (.int p1), .val (.int p2), .val (.int (((p2 * q1) + p1) * (4 : Int32)))] [(.int ((r1 &&& (255 : Int32)) <<< ((8 : Int32) &&& 31))), (.int (((r3 &&& (255 : Int32)) <<< ((24 : Int32) &&& 31)) ||| ((r0 &&& (255 : Int32)) <<< ((16 : Int32) &&& 31))))])) _
    refine XT.ior X23.here hx rfl (hb hby d4_102) rfl ?_
    show Steps p.tables e below (T23.setTop (mkF m 103 #[.val (.ref a1), .val (.int p1), .val (.int p2), .val (.int (((p2 * q1) + p1) * (4 : Int32)))] [(.int ((((r3 &&& (255 : Int32)) <<< ((24 : Int32) &&& 31)) ||| ((r0 &&& (255 : Int32)) <<< ((16 : Int32) &&& 31))) ||| ((r1 &&& (255 : Int32)) <<< ((8 : Int32) &&& 31))))])) _
    refine XS.aloadN X23.here hx rfl (hb hby d4_103) rfl rfl ?_
    show Steps p.tables e below (T23.setTop (mkF m 104 #[.val (.ref a1), .val (.int p1), .val (.int p2), .val (.int (((p2 * q1) + p1) * (4 : Int32)))] [(.ref a1), (.int ((((r3 &&& (255 : Int32)) <<< ((24 : Int32) &&& 31)) ||| ((r0 &&& (255 : Int32)) <<< ((16 : Int32) &&& 31))) ||| ((r1 &&& (255 : Int32)) <<< ((8 : Int32) &&& 31))))])) _
    exact k
  obtain ⟨T29, X29, e29, st29⟩ := getF X23 hx hZ hown (host := "") (Or.inl (hw _ (List.mem_of_getElem? (i := 28) rfl))) Via.refl e23 F2 (g := (mkF m 104 #[.val (.ref a1), .val (.int p1), .val (.int p2), .val (.int (((p2 * q1) + p1) * (4 : Int32)))] [(.ref a1), (.int ((((r3 &&& (255 : Int32)) <<< ((24 : Int32) &&& 31)) ||| ((r0 &&& (255 : Int32)) <<< ((16 : Int32) &&& 31))) ||| ((r1 &&& (255 : Int32)) <<< ((8 : Int32) &&& 31))))])) rfl rfl (hb hby d4_104)
  have pre30 : ∀ t, Steps p.tables e below (T29.setTop (mkF m 107 #[.val (.ref a1), .val (.int p1), .val (.int p2), .val (.int (((p2 * q1) + p1) * (4 : Int32)))] [(.ref pa), (.int ((((r3 &&& (255 : Int32)) <<< ((24 : Int32) &&& 31)) ||| ((r0 &&& (255 : Int32)) <<< ((16 : Int32) &&& 31))) ||| ((r1 &&& (255 : Int32)) <<< ((8 : Int32) &&& 31))))])) t → Steps p.tables e below (s₁.setTop (entryFrame m #[(.ref a1), (.int p1), (.int p2)] 4)) t := fun t k => pre28 t (st29 t k)
  have pre31 : ∀ t, Steps p.tables e below (T29.setTop (mkF m 110 #[.val (.ref a1), .val (.int p1), .val (.int p2), .val (.int (((p2 * q1) + p1) * (4 : Int32)))] [(.int ((((p2 * q1) + p1) * (4 : Int32)) + (2 : Int32))), (.ref pa), (.int ((((r3 &&& (255 : Int32)) <<< ((24 : Int32) &&& 31)) ||| ((r0 &&& (255 : Int32)) <<< ((16 : Int32) &&& 31))) ||| ((r1 &&& (255 : Int32)) <<< ((8 : Int32) &&& 31))))])) t → Steps p.tables e below (s₁.setTop (entryFrame m #[(.ref a1), (.int p1), (.int p2)] 4)) t := by
    intro t k
    refine pre30 t ?_
    refine XS.iloadN X29.here hx rfl (hb hby d4_107) rfl ?_
    show Steps p.tables e below (T29.setTop (mkF m 108 #[.val (.ref a1), .val (.int p1), .val (.int p2), .val (.int (((p2 * q1) + p1) * (4 : Int32)))] [(.int (((p2 * q1) + p1) * (4 : Int32))), (.ref pa), (.int ((((r3 &&& (255 : Int32)) <<< ((24 : Int32) &&& 31)) ||| ((r0 &&& (255 : Int32)) <<< ((16 : Int32) &&& 31))) ||| ((r1 &&& (255 : Int32)) <<< ((8 : Int32) &&& 31))))])) _
    refine XS.iconst X29.here hx rfl (hb hby d4_108) ?_
    show Steps p.tables e below (T29.setTop (mkF m 109 #[.val (.ref a1), .val (.int p1), .val (.int p2), .val (.int (((p2 * q1) + p1) * (4 : Int32)))] [(.int (2 : Int32)), (.int (((p2 * q1) + p1) * (4 : Int32))), (.ref pa), (.int ((((r3 &&& (255 : Int32)) <<< ((24 : Int32) &&& 31)) ||| ((r0 &&& (255 : Int32)) <<< ((16 : Int32) &&& 31))) ||| ((r1 &&& (255 : Int32)) <<< ((8 : Int32) &&& 31))))])) _
    refine XS.iadd X29.here hx rfl (hb hby d4_109) rfl ?_
    show Steps p.tables e below (T29.setTop (mkF m 110 #[.val (.ref a1), .val (.int p1), .val (.int p2), .val (.int (((p2 * q1) + p1) * (4 : Int32)))] [(.int ((((p2 * q1) + p1) * (4 : Int32)) + (2 : Int32))), (.ref pa), (.int ((((r3 &&& (255 : Int32)) <<< ((24 : Int32) &&& 31)) ||| ((r0 &&& (255 : Int32)) <<< ((16 : Int32) &&& 31))) ||| ((r1 &&& (255 : Int32)) <<< ((8 : Int32) &&& 31))))])) _
    exact k
  obtain ⟨cc32, Ar32, q1_32, Sz32, q3_32, Hs32, G32⟩ := id V0
  have hin32 : ¬ (((((p2 * q1) + p1) * (4 : Int32)) + (2 : Int32)) < 0 ∨ cc32.slots.size ≤ (((((p2 * q1) + p1) * (4 : Int32)) + (2 : Int32)) : Int32).toNatClampNeg) := inb_of Sz32 hj3
  have hat32 : cc32.slots[(((((p2 * q1) + p1) * (4 : Int32)) + (2 : Int32)) : Int32).toNatClampNeg]? = some (.int r2) := Hs32.at hin32 hv3
  have pre34 : ∀ t, Steps p.tables e below (T29.setTop (mkF m 116 #[.val (.ref a1), .val (.int p1), .val (.int p2), .val (.int (((p2 * q1) + p1) * (4 : Int32)))] [(.int (((((r3 &&& (255 : Int32)) <<< ((24 : Int32) &&& 31)) ||| ((r0 &&& (255 : Int32)) <<< ((16 : Int32) &&& 31))) ||| ((r1 &&& (255 : Int32)) <<< ((8 : Int32) &&& 31))) ||| (r2 &&& (255 : Int32))))])) t → Steps p.tables e below (s₁.setTop (entryFrame m #[(.ref a1), (.int p1), (.int p2)] 4)) t := by
    intro t k
    refine pre31 t ?_
    refine X29.baloadBytes hx (j := ((((p2 * q1) + p1) * (4 : Int32)) + (2 : Int32))) (v := (.int r2)) (by rw [e29]; exact Ar32.1) (State.isArrayOf_alike hZ.alike Ar32.2.1) Ar32.2.2 hin32 hat32 (g := (mkF m 110 #[.val (.ref a1), .val (.int p1), .val (.int p2), .val (.int (((p2 * q1) + p1) * (4 : Int32)))] [(.int ((((p2 * q1) + p1) * (4 : Int32)) + (2 : Int32))), (.ref pa), (.int ((((r3 &&& (255 : Int32)) <<< ((24 : Int32) &&& 31)) ||| ((r0 &&& (255 : Int32)) <<< ((16 : Int32) &&& 31))) ||| ((r1 &&& (255 : Int32)) <<< ((8 : Int32) &&& 31))))])) rfl rfl (hb hby d4_110) _ ?_
    show Steps p.tables e below (T29.setTop (mkF m 111 #[.val (.ref a1), .val (.int p1), .val (.int p2), .val (.int (((p2 * q1) + p1) * (4 : Int32)))] [(.int r2), (.int ((((r3 &&& (255 : Int32)) <<< ((24 : Int32) &&& 31)) ||| ((r0 &&& (255 : Int32)) <<< ((16 : Int32) &&& 31))) ||| ((r1 &&& (255 : Int32)) <<< ((8 : Int32) &&& 31))))])) _
    refine XS.sipush X29.here hx rfl (hb hby d4_111) ?_
    show Steps p.tables e below (T29.setTop (mkF m 114 #[.val (.ref a1), .val (.int p1), .val (.int p2), .val (.int (((p2 * q1) + p1) * (4 : Int32)))] [(.int (255 : Int32)), (.int r2), (.int ((((r3 &&& (255 : Int32)) <<< ((24 : Int32) &&& 31)) ||| ((r0 &&& (255 : Int32)) <<< ((16 : Int32) &&& 31))) ||| ((r1 &&& (255 : Int32)) <<< ((8 : Int32) &&& 31))))])) _
    refine XS.iand X29.here hx rfl (hb hby d4_114) rfl ?_
    show Steps p.tables e below (T29.setTop (mkF m 115 #[.val (.ref a1), .val (.int p1), .val (.int p2), .val (.int (((p2 * q1) + p1) * (4 : Int32)))] [(.int (r2 &&& (255 : Int32))), (.int ((((r3 &&& (255 : Int32)) <<< ((24 : Int32) &&& 31)) ||| ((r0 &&& (255 : Int32)) <<< ((16 : Int32) &&& 31))) ||| ((r1 &&& (255 : Int32)) <<< ((8 : Int32) &&& 31))))])) _
    refine XT.ior X29.here hx rfl (hb hby d4_115) rfl ?_
    show Steps p.tables e below (T29.setTop (mkF m 116 #[.val (.ref a1), .val (.int p1), .val (.int p2), .val (.int (((p2 * q1) + p1) * (4 : Int32)))] [(.int (((((r3 &&& (255 : Int32)) <<< ((24 : Int32) &&& 31)) ||| ((r0 &&& (255 : Int32)) <<< ((16 : Int32) &&& 31))) ||| ((r1 &&& (255 : Int32)) <<< ((8 : Int32) &&& 31))) ||| (r2 &&& (255 : Int32))))])) _
    exact k
  obtain ⟨fs, hr, hrun, hended, hW, hsame⟩ := X29.leave (v := some (.int (((((r3 &&& (255 : Int32)) <<< ((24 : Int32) &&& 31)) ||| ((r0 &&& (255 : Int32)) <<< ((16 : Int32) &&& 31))) ||| ((r1 &&& (255 : Int32)) <<< ((8 : Int32) &&& 31))) ||| (r2 &&& (255 : Int32))))) (fun h => by rw [Bd.returns] at h; cases h)
  refine ⟨_, _, pre34 _ ?_, hrun, hended, _, _, rfl, ?_, ⟨_, rfl⟩, hW, hsame.mono (by decide) (by decide)⟩
  · exact retOut X29 hx Bd.returns rfl (Or.inl ⟨rfl, by simp, _, rfl⟩) (hb hby d4_116) hr
  · show Q4 Z a1 p1 p2 q1 q2 pa kk vs r3 r0 r1 r2 h0 n0 _ T29.heap _
    rw [e29]
    exact ⟨rfl, N0, rfl⟩
theorem pd_put : parseMethodDescriptor "([BII)V" = some ⟨[(.array .byte), .int, .int], none⟩ := by decide +kernel
theorem pd_img : parseMethodDescriptor "(II[B)V" = some ⟨[.int, .int, (.array .byte)], none⟩ := by decide +kernel
theorem pd_argb : parseMethodDescriptor "(II)I" = some ⟨[.int, .int], some .int⟩ := by decide +kernel
theorem pn_law : plainName "com/example/facetwork/facetwork/image/RgbaImageArgbPinLaw" = true := by first | (simp [plainName, overriddenIn]; done) | decide +kernel
theorem ef_law (m : MethodId) (c0 : Int32) (c1 : Int32) (c2 : Int32) (c3 : Int32) (c4 : Int32) (c5 : Int32) : entryFrame m #[(.int c0), (.int c1), (.int c2), (.int c3), (.int c4), (.int c5)] maxLocals = mkF m 0 #[.val (.int c0), .val (.int c1), .val (.int c2), .val (.int c3), .val (.int c4), .val (.int c5), .unset, .unset] [] := by first | (simp [entryFrame, mkF, argsToLocals, Value.category, maxLocals]; done) | rfl
def Qlaw (Z : State) (c0 : Int32) (c1 : Int32) (c2 : Int32) (c3 : Int32) (c4 : Int32) (c5 : Int32) (h0 : Heap) (n0 : Nat) (v : Option Value) (h : Heap) (L : List Loc) : Prop := v = some (.int (1 : Int32)) ∧ Fr n0 L
set_option maxRecDepth 65536 in
set_option maxHeartbeats 40000000 in
theorem rmlaw (l : Launch) (Z : State) (a0 : Array Value) (hw : ∀ d ∈ tables_1, d.before a0 Z = true) (ws : List Jvm.Cond) (c0 : Int32) (c1 : Int32) (c2 : Int32) (c3 : Int32) (c4 : Int32) (c5 : Int32) (h0 : Heap) (n0 : Nat) (Z0 : n0 ≤ h0.size) :
    MetFree l x (head1 (Jvm.Cond.code x code maxLocals ret :: ws) room_1) (fun a U => a = #[(.int c0), (.int c1), (.int c2), (.int c3), (.int c4), (.int c5)] ∧ Z.Warmed39 U.vm ∧ U.heap = h0) (fun _ _ _ _ _ => True) (fun _ U o U' => ∃ v L, o = .returned v ∧ Qlaw Z c0 c1 c2 c3 c4 c5 h0 n0 v U'.heap L ∧ FrameEnd U o U' L room_1.cells room_1.slots) := by
  refine MetFree.of_bodySF (plainFor_of_name pn_law) hisR ?_
  intro p e s m args below meth c s₁ Bd hml0 hP hK
  obtain ⟨rfl, hZ, hh⟩ := hP
  have hx := Bd.exec
  have hby := Bd.bytes
  have hml : c.maxLocals = 8 := hml0
  have hown : s.vm.findClass "com/example/facetwork/facetwork/image/RgbaImageArgbPinLaw" = some m.cls := findClass_of_methodNamed Bd.named
  have hnm := (name_of_methodNamed Bd.named Bd.method).1
  have X0 : Stand p l e room_1 s m #[(.int c0), (.int c1), (.int c2), (.int c3), (.int c4), (.int c5)] below meth c s₁ [] 0 0 := Stand.of_body Bd
  have e0 : s₁.heap = h0 := by rw [← hh, Bd.state]; rfl
  have N0 := Fr.nil n0
  have pre0 : ∀ t, Steps p.tables e below (s₁.setTop (mkF m 0 #[.val (.int c0), .val (.int c1), .val (.int c2), .val (.int c3), .val (.int c4), .val (.int c5), .unset, .unset] [])) t → Steps p.tables e below (s₁.setTop (entryFrame m #[(.int c0), (.int c1), (.int c2), (.int c3), (.int c4), (.int c5)] maxLocals)) t := fun t k => castTop (ef_law m c0 c1 c2 c3 c4 c5) k
  have pre2 : ∀ t, Steps p.tables e below (s₁.setTop (mkF m 2 #[.val (.int c0), .val (.int c1), .val (.int c2), .val (.int c3), .val (.int c4), .val (.int c5), .unset, .unset] [(.int (24 : Int32))])) t → Steps p.tables e below (s₁.setTop (entryFrame m #[(.int c0), (.int c1), (.int c2), (.int c3), (.int c4), (.int c5)] maxLocals)) t := by
    intro t k
    refine pre0 t ?_
    refine XS.bipush X0.here hx rfl (hb hby at_0) ?_
    show Steps p.tables e below (s₁.setTop (mkF m 2 #[.val (.int c0), .val (.int c1), .val (.int c2), .val (.int c3), .val (.int c4), .val (.int c5), .unset, .unset] [(.int (24 : Int32))])) _
    exact k
  obtain ⟨T3, h3, cA3, X3, e3, E3, A3, Ea3, st3⟩ := newPE X0 hx hZ (hw _ (List.mem_of_getElem? (i := 0) rfl)) e0 (g := (mkF m 2 #[.val (.int c0), .val (.int c1), .val (.int c2), .val (.int c3), .val (.int c4), .val (.int c5), .unset, .unset] [(.int (24 : Int32))])) rfl (hb hby at_2) rfl (by decide) (cap := 24) (by decide) (by decide) (by decide) (by decide) (ad := "[B") rfl
  obtain ⟨b1, gz3⟩ : ∃ z, z = h0.size := ⟨_, rfl⟩
  rw [← gz3] at A3 Ea3 st3
  have g_b1 : n0 ≤ b1 := Nat.le_trans Z0 (Nat.le_of_eq gz3.symm)
  have V3 : Arv Z h3 b1 cA3 .byte (24 : Int32) [(.int (0 : Int32)), (.int (0 : Int32)), (.int (0 : Int32)), (.int (0 : Int32)), (.int (0 : Int32)), (.int (0 : Int32)), (.int (0 : Int32)), (.int (0 : Int32)), (.int (0 : Int32)), (.int (0 : Int32)), (.int (0 : Int32)), (.int (0 : Int32)), (.int (0 : Int32)), (.int (0 : Int32)), (.int (0 : Int32)), (.int (0 : Int32)), (.int (0 : Int32)), (.int (0 : Int32)), (.int (0 : Int32)), (.int (0 : Int32)), (.int (0 : Int32)), (.int (0 : Int32)), (.int (0 : Int32)), (.int (0 : Int32))] (.int (0 : Int32)) := Arv.pad (Arv.new A3 (by decide)) (pad_rep [] (.int (0 : Int32)) 24)
  have pre4 : ∀ t, Steps p.tables e below (T3.setTop (mkF m 4 #[.val (.int c0), .val (.int c1), .val (.int c2), .val (.int c3), .val (.int c4), .val (.int c5), .unset, .unset] [(.ref b1)])) t → Steps p.tables e below (s₁.setTop (entryFrame m #[(.int c0), (.int c1), (.int c2), (.int c3), (.int c4), (.int c5)] maxLocals)) t := fun t k => pre2 t (st3 t k)
  have Z5 : n0 ≤ h3.size := (Nat.le_trans Z0 E3.1)
  have pre7 : ∀ t, Steps p.tables e below (T3.setTop (mkF m 10 #[.val (.int c0), .val (.int c1), .val (.int c2), .val (.int c3), .val (.int c4), .val (.int c5), .val (.ref b1), .unset] [(.int c0), (.int (0 : Int32)), (.ref b1)])) t → Steps p.tables e below (s₁.setTop (entryFrame m #[(.int c0), (.int c1), (.int c2), (.int c3), (.int c4), (.int c5)] maxLocals)) t := by
    intro t k
    refine pre4 t ?_
    refine XS.astore X3.here hx rfl (hb hby at_4) rfl rfl (l' := #[.val (.int c0), .val (.int c1), .val (.int c2), .val (.int c3), .val (.int c4), .val (.int c5), .val (.ref b1), .unset]) rfl ?_
    show Steps p.tables e below (T3.setTop (mkF m 6 #[.val (.int c0), .val (.int c1), .val (.int c2), .val (.int c3), .val (.int c4), .val (.int c5), .val (.ref b1), .unset] [])) _
    refine XS.aload X3.here hx rfl (hb hby at_6) rfl rfl ?_
    show Steps p.tables e below (T3.setTop (mkF m 8 #[.val (.int c0), .val (.int c1), .val (.int c2), .val (.int c3), .val (.int c4), .val (.int c5), .val (.ref b1), .unset] [(.ref b1)])) _
    refine XS.iconst X3.here hx rfl (hb hby at_8) ?_
    show Steps p.tables e below (T3.setTop (mkF m 9 #[.val (.int c0), .val (.int c1), .val (.int c2), .val (.int c3), .val (.int c4), .val (.int c5), .val (.ref b1), .unset] [(.int (0 : Int32)), (.ref b1)])) _
    refine XS.iloadN X3.here hx rfl (hb hby at_9) rfl ?_
    show Steps p.tables e below (T3.setTop (mkF m 10 #[.val (.int c0), .val (.int c1), .val (.int c2), .val (.int c3), .val (.int c4), .val (.int c5), .val (.ref b1), .unset] [(.int c0), (.int (0 : Int32)), (.ref b1)])) _
    exact k
  obtain ⟨_, _, ⟨T9, L9, k9, n9⟩, -, X9, ⟨Lc9, hQ9, l9, y9, z9⟩, st9⟩ := Jvm.LawKit.callS X3 hx (y := (⟨"com/example/facetwork/facetwork/image/RgbaImageArgbPinLaw", "put", "([BII)V"⟩ : MethodName)) hown (mvT hZ (hw _ (List.mem_of_getElem? (i := 1) rfl))) (mvT hZ (hw _ (List.mem_of_getElem? (i := 2) rfl))) (mvT hZ (hw _ (List.mem_of_getElem? (i := 3) rfl))) (mvT hZ (hw _ (List.mem_of_getElem? (i := 4) rfl))) (by decide) (backOf (W := 0) (rm1 l Z a0 hw [] b1 (0 : Int32) c0 cA3 [(.int (0 : Int32)), (.int (0 : Int32)), (.int (0 : Int32)), (.int (0 : Int32)), (.int (0 : Int32)), (.int (0 : Int32)), (.int (0 : Int32)), (.int (0 : Int32)), (.int (0 : Int32)), (.int (0 : Int32)), (.int (0 : Int32)), (.int (0 : Int32)), (.int (0 : Int32)), (.int (0 : Int32)), (.int (0 : Int32)), (.int (0 : Int32)), (.int (0 : Int32)), (.int (0 : Int32)), (.int (0 : Int32)), (.int (0 : Int32)), (.int (0 : Int32)), (.int (0 : Int32)), (.int (0 : Int32)), (.int (0 : Int32))] 0 h3 n0 Z5 V3 g_b1 (by decide : 0 + 3 < 24) (by decide) (by decide) (by decide) (by decide) (by decide) (by decide) (by decide) (by decide)) hZ (hw _ (List.mem_of_getElem? (i := 4) rfl)) (hw _ (List.mem_of_getElem? (i := 3) rfl)) (by decide) (by decide)) (g := (mkF m 10 #[.val (.int c0), .val (.int c1), .val (.int c2), .val (.int c3), .val (.int c4), .val (.int c5), .val (.ref b1), .unset] [(.int c0), (.int (0 : Int32)), (.ref b1)])) rfl (by rw [hml]; rfl) (argsL := [(.ref b1), (.int (0 : Int32)), (.int c0)]) (rest := []) (lenOf pd_put rfl) rfl (by show 2 * 0 + _ ≤ _; exact Nat.le_of_eq rfl) (hb hby at_10) (fun _ _ => ⟨rfl, e3, (by decide : 1 + 0 ≤ _), (by decide : 24 + 0 ≤ _)⟩)
  dsimp only [Pt.U, Pt.locs, Pt.cells, Pt.slots] at X9 l9 y9 z9 st9 hQ9
  subst l9 y9 z9
  obtain ⟨rfl, Nq9, Kq9, Va9⟩ := hQ9
  have N9 := Fr.app N0 Nq9
  have pre10 : ∀ t, Steps p.tables e below (T9.setTop (mkF m 13 #[.val (.int c0), .val (.int c1), .val (.int c2), .val (.int c3), .val (.int c4), .val (.int c5), .val (.ref b1), .unset] [])) t → Steps p.tables e below (s₁.setTop (entryFrame m #[(.int c0), (.int c1), (.int c2), (.int c3), (.int c4), (.int c5)] maxLocals)) t := fun t k => pre7 t (st9 t k)
  obtain ⟨h9, e9⟩ : ∃ z, T9.heap = z := ⟨_, rfl⟩
  rw [e9] at Kq9 Va9
  have Vb9 : Arv Z h9 b1 cA3 .byte (24 : Int32) [(.int (nar .byte ((c0 >>> ((16 : Int32) &&& 31)).toInt8.toInt32))), (.int (nar .byte ((c0 >>> ((8 : Int32) &&& 31)).toInt8.toInt32))), (.int (nar .byte (c0.toInt8.toInt32))), (.int (nar .byte ((XT.ushr c0 (24 : Int32)).toInt8.toInt32))), (.int (0 : Int32)), (.int (0 : Int32)), (.int (0 : Int32)), (.int (0 : Int32)), (.int (0 : Int32)), (.int (0 : Int32)), (.int (0 : Int32)), (.int (0 : Int32)), (.int (0 : Int32)), (.int (0 : Int32)), (.int (0 : Int32)), (.int (0 : Int32)), (.int (0 : Int32)), (.int (0 : Int32)), (.int (0 : Int32)), (.int (0 : Int32)), (.int (0 : Int32)), (.int (0 : Int32)), (.int (0 : Int32)), (.int (0 : Int32))] (.int (0 : Int32)) := Va9
  have E11_0 : Exa Z h9 b1 "[B" := (Ea3.keep Kq9)
  have Z11 : n0 ≤ h9.size := (Nat.le_trans Z5 Kq9.1)
  have pre13 : ∀ t, Steps p.tables e below (T9.setTop (mkF m 17 #[.val (.int c0), .val (.int c1), .val (.int c2), .val (.int c3), .val (.int c4), .val (.int c5), .val (.ref b1), .unset] [(.int c1), (.int (4 : Int32)), (.ref b1)])) t → Steps p.tables e below (s₁.setTop (entryFrame m #[(.int c0), (.int c1), (.int c2), (.int c3), (.int c4), (.int c5)] maxLocals)) t := by
    intro t k
    refine pre10 t ?_
    refine XS.aload X9.here hx rfl (hb hby at_13) rfl rfl ?_
    show Steps p.tables e below (T9.setTop (mkF m 15 #[.val (.int c0), .val (.int c1), .val (.int c2), .val (.int c3), .val (.int c4), .val (.int c5), .val (.ref b1), .unset] [(.ref b1)])) _
    refine XS.iconst X9.here hx rfl (hb hby at_15) ?_
    show Steps p.tables e below (T9.setTop (mkF m 16 #[.val (.int c0), .val (.int c1), .val (.int c2), .val (.int c3), .val (.int c4), .val (.int c5), .val (.ref b1), .unset] [(.int (4 : Int32)), (.ref b1)])) _
    refine XS.iloadN X9.here hx rfl (hb hby at_16) rfl ?_
    show Steps p.tables e below (T9.setTop (mkF m 17 #[.val (.int c0), .val (.int c1), .val (.int c2), .val (.int c3), .val (.int c4), .val (.int c5), .val (.ref b1), .unset] [(.int c1), (.int (4 : Int32)), (.ref b1)])) _
    exact k
  obtain ⟨_, _, ⟨T15, L15, k15, n15⟩, -, X15, ⟨Lc15, hQ15, l15, y15, z15⟩, st15⟩ := Jvm.LawKit.callS X9 hx (y := (⟨"com/example/facetwork/facetwork/image/RgbaImageArgbPinLaw", "put", "([BII)V"⟩ : MethodName)) hown (mvT hZ (hw _ (List.mem_of_getElem? (i := 1) rfl))) (mvT hZ (hw _ (List.mem_of_getElem? (i := 2) rfl))) (mvT hZ (hw _ (List.mem_of_getElem? (i := 3) rfl))) (mvT hZ (hw _ (List.mem_of_getElem? (i := 4) rfl))) (by decide) (backOf (W := 0) (rm1 l Z a0 hw [] b1 (4 : Int32) c1 cA3 [(.int (nar .byte ((c0 >>> ((16 : Int32) &&& 31)).toInt8.toInt32))), (.int (nar .byte ((c0 >>> ((8 : Int32) &&& 31)).toInt8.toInt32))), (.int (nar .byte (c0.toInt8.toInt32))), (.int (nar .byte ((XT.ushr c0 (24 : Int32)).toInt8.toInt32))), (.int (0 : Int32)), (.int (0 : Int32)), (.int (0 : Int32)), (.int (0 : Int32)), (.int (0 : Int32)), (.int (0 : Int32)), (.int (0 : Int32)), (.int (0 : Int32)), (.int (0 : Int32)), (.int (0 : Int32)), (.int (0 : Int32)), (.int (0 : Int32)), (.int (0 : Int32)), (.int (0 : Int32)), (.int (0 : Int32)), (.int (0 : Int32)), (.int (0 : Int32)), (.int (0 : Int32)), (.int (0 : Int32)), (.int (0 : Int32))] 4 h9 n0 Z11 Vb9 g_b1 (by decide : 4 + 3 < 24) (by decide) (by decide) (by decide) (by decide) (by decide) (by decide) (by decide) (by decide)) hZ (hw _ (List.mem_of_getElem? (i := 4) rfl)) (hw _ (List.mem_of_getElem? (i := 3) rfl)) (by decide) (by decide)) (g := (mkF m 17 #[.val (.int c0), .val (.int c1), .val (.int c2), .val (.int c3), .val (.int c4), .val (.int c5), .val (.ref b1), .unset] [(.int c1), (.int (4 : Int32)), (.ref b1)])) rfl (by rw [hml]; rfl) (argsL := [(.ref b1), (.int (4 : Int32)), (.int c1)]) (rest := []) (lenOf pd_put rfl) rfl (by show 2 * 0 + _ ≤ _; exact Nat.le_of_eq rfl) (hb hby at_17) (fun _ _ => ⟨rfl, e9, (by decide : 1 + 0 ≤ _), (by decide : 24 + 0 ≤ _)⟩)
  dsimp only [Pt.U, Pt.locs, Pt.cells, Pt.slots] at X15 l15 y15 z15 st15 hQ15
  subst l15 y15 z15
  obtain ⟨rfl, Nq15, Kq15, Va15⟩ := hQ15
  have N15 := Fr.app N9 Nq15
  have pre16 : ∀ t, Steps p.tables e below (T15.setTop (mkF m 20 #[.val (.int c0), .val (.int c1), .val (.int c2), .val (.int c3), .val (.int c4), .val (.int c5), .val (.ref b1), .unset] [])) t → Steps p.tables e below (s₁.setTop (entryFrame m #[(.int c0), (.int c1), (.int c2), (.int c3), (.int c4), (.int c5)] maxLocals)) t := fun t k => pre13 t (st15 t k)
  obtain ⟨h15, e15⟩ : ∃ z, T15.heap = z := ⟨_, rfl⟩
  rw [e15] at Kq15 Va15
  have Vb15 : Arv Z h15 b1 cA3 .byte (24 : Int32) [(.int (nar .byte ((c0 >>> ((16 : Int32) &&& 31)).toInt8.toInt32))), (.int (nar .byte ((c0 >>> ((8 : Int32) &&& 31)).toInt8.toInt32))), (.int (nar .byte (c0.toInt8.toInt32))), (.int (nar .byte ((XT.ushr c0 (24 : Int32)).toInt8.toInt32))), (.int (nar .byte ((c1 >>> ((16 : Int32) &&& 31)).toInt8.toInt32))), (.int (nar .byte ((c1 >>> ((8 : Int32) &&& 31)).toInt8.toInt32))), (.int (nar .byte (c1.toInt8.toInt32))), (.int (nar .byte ((XT.ushr c1 (24 : Int32)).toInt8.toInt32))), (.int (0 : Int32)), (.int (0 : Int32)), (.int (0 : Int32)), (.int (0 : Int32)), (.int (0 : Int32)), (.int (0 : Int32)), (.int (0 : Int32)), (.int (0 : Int32)), (.int (0 : Int32)), (.int (0 : Int32)), (.int (0 : Int32)), (.int (0 : Int32)), (.int (0 : Int32)), (.int (0 : Int32)), (.int (0 : Int32)), (.int (0 : Int32))] (.int (0 : Int32)) := Va15
  have E17_0 : Exa Z h15 b1 "[B" := (E11_0.keep Kq15)
  have Z17 : n0 ≤ h15.size := (Nat.le_trans Z11 Kq15.1)
  have pre19 : ∀ t, Steps p.tables e below (T15.setTop (mkF m 25 #[.val (.int c0), .val (.int c1), .val (.int c2), .val (.int c3), .val (.int c4), .val (.int c5), .val (.ref b1), .unset] [(.int c2), (.int (8 : Int32)), (.ref b1)])) t → Steps p.tables e below (s₁.setTop (entryFrame m #[(.int c0), (.int c1), (.int c2), (.int c3), (.int c4), (.int c5)] maxLocals)) t := by
    intro t k
    refine pre16 t ?_
    refine XS.aload X15.here hx rfl (hb hby at_20) rfl rfl ?_
    show Steps p.tables e below (T15.setTop (mkF m 22 #[.val (.int c0), .val (.int c1), .val (.int c2), .val (.int c3), .val (.int c4), .val (.int c5), .val (.ref b1), .unset] [(.ref b1)])) _
    refine XS.bipush X15.here hx rfl (hb hby at_22) ?_
    show Steps p.tables e below (T15.setTop (mkF m 24 #[.val (.int c0), .val (.int c1), .val (.int c2), .val (.int c3), .val (.int c4), .val (.int c5), .val (.ref b1), .unset] [(.int (8 : Int32)), (.ref b1)])) _
    refine XS.iloadN X15.here hx rfl (hb hby at_24) rfl ?_
    show Steps p.tables e below (T15.setTop (mkF m 25 #[.val (.int c0), .val (.int c1), .val (.int c2), .val (.int c3), .val (.int c4), .val (.int c5), .val (.ref b1), .unset] [(.int c2), (.int (8 : Int32)), (.ref b1)])) _
    exact k
  obtain ⟨_, _, ⟨T21, L21, k21, n21⟩, -, X21, ⟨Lc21, hQ21, l21, y21, z21⟩, st21⟩ := Jvm.LawKit.callS X15 hx (y := (⟨"com/example/facetwork/facetwork/image/RgbaImageArgbPinLaw", "put", "([BII)V"⟩ : MethodName)) hown (mvT hZ (hw _ (List.mem_of_getElem? (i := 1) rfl))) (mvT hZ (hw _ (List.mem_of_getElem? (i := 2) rfl))) (mvT hZ (hw _ (List.mem_of_getElem? (i := 3) rfl))) (mvT hZ (hw _ (List.mem_of_getElem? (i := 4) rfl))) (by decide) (backOf (W := 0) (rm1 l Z a0 hw [] b1 (8 : Int32) c2 cA3 [(.int (nar .byte ((c0 >>> ((16 : Int32) &&& 31)).toInt8.toInt32))), (.int (nar .byte ((c0 >>> ((8 : Int32) &&& 31)).toInt8.toInt32))), (.int (nar .byte (c0.toInt8.toInt32))), (.int (nar .byte ((XT.ushr c0 (24 : Int32)).toInt8.toInt32))), (.int (nar .byte ((c1 >>> ((16 : Int32) &&& 31)).toInt8.toInt32))), (.int (nar .byte ((c1 >>> ((8 : Int32) &&& 31)).toInt8.toInt32))), (.int (nar .byte (c1.toInt8.toInt32))), (.int (nar .byte ((XT.ushr c1 (24 : Int32)).toInt8.toInt32))), (.int (0 : Int32)), (.int (0 : Int32)), (.int (0 : Int32)), (.int (0 : Int32)), (.int (0 : Int32)), (.int (0 : Int32)), (.int (0 : Int32)), (.int (0 : Int32)), (.int (0 : Int32)), (.int (0 : Int32)), (.int (0 : Int32)), (.int (0 : Int32)), (.int (0 : Int32)), (.int (0 : Int32)), (.int (0 : Int32)), (.int (0 : Int32))] 8 h15 n0 Z17 Vb15 g_b1 (by decide : 8 + 3 < 24) (by decide) (by decide) (by decide) (by decide) (by decide) (by decide) (by decide) (by decide)) hZ (hw _ (List.mem_of_getElem? (i := 4) rfl)) (hw _ (List.mem_of_getElem? (i := 3) rfl)) (by decide) (by decide)) (g := (mkF m 25 #[.val (.int c0), .val (.int c1), .val (.int c2), .val (.int c3), .val (.int c4), .val (.int c5), .val (.ref b1), .unset] [(.int c2), (.int (8 : Int32)), (.ref b1)])) rfl (by rw [hml]; rfl) (argsL := [(.ref b1), (.int (8 : Int32)), (.int c2)]) (rest := []) (lenOf pd_put rfl) rfl (by show 2 * 0 + _ ≤ _; exact Nat.le_of_eq rfl) (hb hby at_25) (fun _ _ => ⟨rfl, e15, (by decide : 1 + 0 ≤ _), (by decide : 24 + 0 ≤ _)⟩)
  dsimp only [Pt.U, Pt.locs, Pt.cells, Pt.slots] at X21 l21 y21 z21 st21 hQ21
  subst l21 y21 z21
  obtain ⟨rfl, Nq21, Kq21, Va21⟩ := hQ21
  have N21 := Fr.app N15 Nq21
  have pre22 : ∀ t, Steps p.tables e below (T21.setTop (mkF m 28 #[.val (.int c0), .val (.int c1), .val (.int c2), .val (.int c3), .val (.int c4), .val (.int c5), .val (.ref b1), .unset] [])) t → Steps p.tables e below (s₁.setTop (entryFrame m #[(.int c0), (.int c1), (.int c2), (.int c3), (.int c4), (.int c5)] maxLocals)) t := fun t k => pre19 t (st21 t k)
  obtain ⟨h21, e21⟩ : ∃ z, T21.heap = z := ⟨_, rfl⟩
  rw [e21] at Kq21 Va21
  have Vb21 : Arv Z h21 b1 cA3 .byte (24 : Int32) [(.int (nar .byte ((c0 >>> ((16 : Int32) &&& 31)).toInt8.toInt32))), (.int (nar .byte ((c0 >>> ((8 : Int32) &&& 31)).toInt8.toInt32))), (.int (nar .byte (c0.toInt8.toInt32))), (.int (nar .byte ((XT.ushr c0 (24 : Int32)).toInt8.toInt32))), (.int (nar .byte ((c1 >>> ((16 : Int32) &&& 31)).toInt8.toInt32))), (.int (nar .byte ((c1 >>> ((8 : Int32) &&& 31)).toInt8.toInt32))), (.int (nar .byte (c1.toInt8.toInt32))), (.int (nar .byte ((XT.ushr c1 (24 : Int32)).toInt8.toInt32))), (.int (nar .byte ((c2 >>> ((16 : Int32) &&& 31)).toInt8.toInt32))), (.int (nar .byte ((c2 >>> ((8 : Int32) &&& 31)).toInt8.toInt32))), (.int (nar .byte (c2.toInt8.toInt32))), (.int (nar .byte ((XT.ushr c2 (24 : Int32)).toInt8.toInt32))), (.int (0 : Int32)), (.int (0 : Int32)), (.int (0 : Int32)), (.int (0 : Int32)), (.int (0 : Int32)), (.int (0 : Int32)), (.int (0 : Int32)), (.int (0 : Int32)), (.int (0 : Int32)), (.int (0 : Int32)), (.int (0 : Int32)), (.int (0 : Int32))] (.int (0 : Int32)) := Va21
  have E23_0 : Exa Z h21 b1 "[B" := (E17_0.keep Kq21)
  have Z23 : n0 ≤ h21.size := (Nat.le_trans Z17 Kq21.1)
  have pre25 : ∀ t, Steps p.tables e below (T21.setTop (mkF m 33 #[.val (.int c0), .val (.int c1), .val (.int c2), .val (.int c3), .val (.int c4), .val (.int c5), .val (.ref b1), .unset] [(.int c3), (.int (12 : Int32)), (.ref b1)])) t → Steps p.tables e below (s₁.setTop (entryFrame m #[(.int c0), (.int c1), (.int c2), (.int c3), (.int c4), (.int c5)] maxLocals)) t := by
    intro t k
    refine pre22 t ?_
    refine XS.aload X21.here hx rfl (hb hby at_28) rfl rfl ?_
    show Steps p.tables e below (T21.setTop (mkF m 30 #[.val (.int c0), .val (.int c1), .val (.int c2), .val (.int c3), .val (.int c4), .val (.int c5), .val (.ref b1), .unset] [(.ref b1)])) _
    refine XS.bipush X21.here hx rfl (hb hby at_30) ?_
    show Steps p.tables e below (T21.setTop (mkF m 32 #[.val (.int c0), .val (.int c1), .val (.int c2), .val (.int c3), .val (.int c4), .val (.int c5), .val (.ref b1), .unset] [(.int (12 : Int32)), (.ref b1)])) _
    refine XS.iloadN X21.here hx rfl (hb hby at_32) rfl ?_
    show Steps p.tables e below (T21.setTop (mkF m 33 #[.val (.int c0), .val (.int c1), .val (.int c2), .val (.int c3), .val (.int c4), .val (.int c5), .val (.ref b1), .unset] [(.int c3), (.int (12 : Int32)), (.ref b1)])) _
    exact k
  obtain ⟨_, _, ⟨T27, L27, k27, n27⟩, -, X27, ⟨Lc27, hQ27, l27, y27, z27⟩, st27⟩ := Jvm.LawKit.callS X21 hx (y := (⟨"com/example/facetwork/facetwork/image/RgbaImageArgbPinLaw", "put", "([BII)V"⟩ : MethodName)) hown (mvT hZ (hw _ (List.mem_of_getElem? (i := 1) rfl))) (mvT hZ (hw _ (List.mem_of_getElem? (i := 2) rfl))) (mvT hZ (hw _ (List.mem_of_getElem? (i := 3) rfl))) (mvT hZ (hw _ (List.mem_of_getElem? (i := 4) rfl))) (by decide) (backOf (W := 0) (rm1 l Z a0 hw [] b1 (12 : Int32) c3 cA3 [(.int (nar .byte ((c0 >>> ((16 : Int32) &&& 31)).toInt8.toInt32))), (.int (nar .byte ((c0 >>> ((8 : Int32) &&& 31)).toInt8.toInt32))), (.int (nar .byte (c0.toInt8.toInt32))), (.int (nar .byte ((XT.ushr c0 (24 : Int32)).toInt8.toInt32))), (.int (nar .byte ((c1 >>> ((16 : Int32) &&& 31)).toInt8.toInt32))), (.int (nar .byte ((c1 >>> ((8 : Int32) &&& 31)).toInt8.toInt32))), (.int (nar .byte (c1.toInt8.toInt32))), (.int (nar .byte ((XT.ushr c1 (24 : Int32)).toInt8.toInt32))), (.int (nar .byte ((c2 >>> ((16 : Int32) &&& 31)).toInt8.toInt32))), (.int (nar .byte ((c2 >>> ((8 : Int32) &&& 31)).toInt8.toInt32))), (.int (nar .byte (c2.toInt8.toInt32))), (.int (nar .byte ((XT.ushr c2 (24 : Int32)).toInt8.toInt32))), (.int (0 : Int32)), (.int (0 : Int32)), (.int (0 : Int32)), (.int (0 : Int32)), (.int (0 : Int32)), (.int (0 : Int32)), (.int (0 : Int32)), (.int (0 : Int32)), (.int (0 : Int32)), (.int (0 : Int32)), (.int (0 : Int32)), (.int (0 : Int32))] 12 h21 n0 Z23 Vb21 g_b1 (by decide : 12 + 3 < 24) (by decide) (by decide) (by decide) (by decide) (by decide) (by decide) (by decide) (by decide)) hZ (hw _ (List.mem_of_getElem? (i := 4) rfl)) (hw _ (List.mem_of_getElem? (i := 3) rfl)) (by decide) (by decide)) (g := (mkF m 33 #[.val (.int c0), .val (.int c1), .val (.int c2), .val (.int c3), .val (.int c4), .val (.int c5), .val (.ref b1), .unset] [(.int c3), (.int (12 : Int32)), (.ref b1)])) rfl (by rw [hml]; rfl) (argsL := [(.ref b1), (.int (12 : Int32)), (.int c3)]) (rest := []) (lenOf pd_put rfl) rfl (by show 2 * 0 + _ ≤ _; exact Nat.le_of_eq rfl) (hb hby at_33) (fun _ _ => ⟨rfl, e21, (by decide : 1 + 0 ≤ _), (by decide : 24 + 0 ≤ _)⟩)
  dsimp only [Pt.U, Pt.locs, Pt.cells, Pt.slots] at X27 l27 y27 z27 st27 hQ27
  subst l27 y27 z27
  obtain ⟨rfl, Nq27, Kq27, Va27⟩ := hQ27
  have N27 := Fr.app N21 Nq27
  have pre28 : ∀ t, Steps p.tables e below (T27.setTop (mkF m 36 #[.val (.int c0), .val (.int c1), .val (.int c2), .val (.int c3), .val (.int c4), .val (.int c5), .val (.ref b1), .unset] [])) t → Steps p.tables e below (s₁.setTop (entryFrame m #[(.int c0), (.int c1), (.int c2), (.int c3), (.int c4), (.int c5)] maxLocals)) t := fun t k => pre25 t (st27 t k)
  obtain ⟨h27, e27⟩ : ∃ z, T27.heap = z := ⟨_, rfl⟩
  rw [e27] at Kq27 Va27
  have Vb27 : Arv Z h27 b1 cA3 .byte (24 : Int32) [(.int (nar .byte ((c0 >>> ((16 : Int32) &&& 31)).toInt8.toInt32))), (.int (nar .byte ((c0 >>> ((8 : Int32) &&& 31)).toInt8.toInt32))), (.int (nar .byte (c0.toInt8.toInt32))), (.int (nar .byte ((XT.ushr c0 (24 : Int32)).toInt8.toInt32))), (.int (nar .byte ((c1 >>> ((16 : Int32) &&& 31)).toInt8.toInt32))), (.int (nar .byte ((c1 >>> ((8 : Int32) &&& 31)).toInt8.toInt32))), (.int (nar .byte (c1.toInt8.toInt32))), (.int (nar .byte ((XT.ushr c1 (24 : Int32)).toInt8.toInt32))), (.int (nar .byte ((c2 >>> ((16 : Int32) &&& 31)).toInt8.toInt32))), (.int (nar .byte ((c2 >>> ((8 : Int32) &&& 31)).toInt8.toInt32))), (.int (nar .byte (c2.toInt8.toInt32))), (.int (nar .byte ((XT.ushr c2 (24 : Int32)).toInt8.toInt32))), (.int (nar .byte ((c3 >>> ((16 : Int32) &&& 31)).toInt8.toInt32))), (.int (nar .byte ((c3 >>> ((8 : Int32) &&& 31)).toInt8.toInt32))), (.int (nar .byte (c3.toInt8.toInt32))), (.int (nar .byte ((XT.ushr c3 (24 : Int32)).toInt8.toInt32))), (.int (0 : Int32)), (.int (0 : Int32)), (.int (0 : Int32)), (.int (0 : Int32)), (.int (0 : Int32)), (.int (0 : Int32)), (.int (0 : Int32)), (.int (0 : Int32))] (.int (0 : Int32)) := Va27
  have E29_0 : Exa Z h27 b1 "[B" := (E23_0.keep Kq27)
  have Z29 : n0 ≤ h27.size := (Nat.le_trans Z23 Kq27.1)
  have pre31 : ∀ t, Steps p.tables e below (T27.setTop (mkF m 42 #[.val (.int c0), .val (.int c1), .val (.int c2), .val (.int c3), .val (.int c4), .val (.int c5), .val (.ref b1), .unset] [(.int c4), (.int (16 : Int32)), (.ref b1)])) t → Steps p.tables e below (s₁.setTop (entryFrame m #[(.int c0), (.int c1), (.int c2), (.int c3), (.int c4), (.int c5)] maxLocals)) t := by
    intro t k
    refine pre28 t ?_
    refine XS.aload X27.here hx rfl (hb hby at_36) rfl rfl ?_
    show Steps p.tables e below (T27.setTop (mkF m 38 #[.val (.int c0), .val (.int c1), .val (.int c2), .val (.int c3), .val (.int c4), .val (.int c5), .val (.ref b1), .unset] [(.ref b1)])) _
    refine XS.bipush X27.here hx rfl (hb hby at_38) ?_
    show Steps p.tables e below (T27.setTop (mkF m 40 #[.val (.int c0), .val (.int c1), .val (.int c2), .val (.int c3), .val (.int c4), .val (.int c5), .val (.ref b1), .unset] [(.int (16 : Int32)), (.ref b1)])) _
    refine XS.iload X27.here hx rfl (hb hby at_40) rfl ?_
    show Steps p.tables e below (T27.setTop (mkF m 42 #[.val (.int c0), .val (.int c1), .val (.int c2), .val (.int c3), .val (.int c4), .val (.int c5), .val (.ref b1), .unset] [(.int c4), (.int (16 : Int32)), (.ref b1)])) _
    exact k
  obtain ⟨_, _, ⟨T33, L33, k33, n33⟩, -, X33, ⟨Lc33, hQ33, l33, y33, z33⟩, st33⟩ := Jvm.LawKit.callS X27 hx (y := (⟨"com/example/facetwork/facetwork/image/RgbaImageArgbPinLaw", "put", "([BII)V"⟩ : MethodName)) hown (mvT hZ (hw _ (List.mem_of_getElem? (i := 1) rfl))) (mvT hZ (hw _ (List.mem_of_getElem? (i := 2) rfl))) (mvT hZ (hw _ (List.mem_of_getElem? (i := 3) rfl))) (mvT hZ (hw _ (List.mem_of_getElem? (i := 4) rfl))) (by decide) (backOf (W := 0) (rm1 l Z a0 hw [] b1 (16 : Int32) c4 cA3 [(.int (nar .byte ((c0 >>> ((16 : Int32) &&& 31)).toInt8.toInt32))), (.int (nar .byte ((c0 >>> ((8 : Int32) &&& 31)).toInt8.toInt32))), (.int (nar .byte (c0.toInt8.toInt32))), (.int (nar .byte ((XT.ushr c0 (24 : Int32)).toInt8.toInt32))), (.int (nar .byte ((c1 >>> ((16 : Int32) &&& 31)).toInt8.toInt32))), (.int (nar .byte ((c1 >>> ((8 : Int32) &&& 31)).toInt8.toInt32))), (.int (nar .byte (c1.toInt8.toInt32))), (.int (nar .byte ((XT.ushr c1 (24 : Int32)).toInt8.toInt32))), (.int (nar .byte ((c2 >>> ((16 : Int32) &&& 31)).toInt8.toInt32))), (.int (nar .byte ((c2 >>> ((8 : Int32) &&& 31)).toInt8.toInt32))), (.int (nar .byte (c2.toInt8.toInt32))), (.int (nar .byte ((XT.ushr c2 (24 : Int32)).toInt8.toInt32))), (.int (nar .byte ((c3 >>> ((16 : Int32) &&& 31)).toInt8.toInt32))), (.int (nar .byte ((c3 >>> ((8 : Int32) &&& 31)).toInt8.toInt32))), (.int (nar .byte (c3.toInt8.toInt32))), (.int (nar .byte ((XT.ushr c3 (24 : Int32)).toInt8.toInt32))), (.int (0 : Int32)), (.int (0 : Int32)), (.int (0 : Int32)), (.int (0 : Int32)), (.int (0 : Int32)), (.int (0 : Int32)), (.int (0 : Int32)), (.int (0 : Int32))] 16 h27 n0 Z29 Vb27 g_b1 (by decide : 16 + 3 < 24) (by decide) (by decide) (by decide) (by decide) (by decide) (by decide) (by decide) (by decide)) hZ (hw _ (List.mem_of_getElem? (i := 4) rfl)) (hw _ (List.mem_of_getElem? (i := 3) rfl)) (by decide) (by decide)) (g := (mkF m 42 #[.val (.int c0), .val (.int c1), .val (.int c2), .val (.int c3), .val (.int c4), .val (.int c5), .val (.ref b1), .unset] [(.int c4), (.int (16 : Int32)), (.ref b1)])) rfl (by rw [hml]; rfl) (argsL := [(.ref b1), (.int (16 : Int32)), (.int c4)]) (rest := []) (lenOf pd_put rfl) rfl (by show 2 * 0 + _ ≤ _; exact Nat.le_of_eq rfl) (hb hby at_42) (fun _ _ => ⟨rfl, e27, (by decide : 1 + 0 ≤ _), (by decide : 24 + 0 ≤ _)⟩)
  dsimp only [Pt.U, Pt.locs, Pt.cells, Pt.slots] at X33 l33 y33 z33 st33 hQ33
  subst l33 y33 z33
  obtain ⟨rfl, Nq33, Kq33, Va33⟩ := hQ33
  have N33 := Fr.app N27 Nq33
  have pre34 : ∀ t, Steps p.tables e below (T33.setTop (mkF m 45 #[.val (.int c0), .val (.int c1), .val (.int c2), .val (.int c3), .val (.int c4), .val (.int c5), .val (.ref b1), .unset] [])) t → Steps p.tables e below (s₁.setTop (entryFrame m #[(.int c0), (.int c1), (.int c2), (.int c3), (.int c4), (.int c5)] maxLocals)) t := fun t k => pre31 t (st33 t k)
  obtain ⟨h33, e33⟩ : ∃ z, T33.heap = z := ⟨_, rfl⟩
  rw [e33] at Kq33 Va33
  have Vb33 : Arv Z h33 b1 cA3 .byte (24 : Int32) [(.int (nar .byte ((c0 >>> ((16 : Int32) &&& 31)).toInt8.toInt32))), (.int (nar .byte ((c0 >>> ((8 : Int32) &&& 31)).toInt8.toInt32))), (.int (nar .byte (c0.toInt8.toInt32))), (.int (nar .byte ((XT.ushr c0 (24 : Int32)).toInt8.toInt32))), (.int (nar .byte ((c1 >>> ((16 : Int32) &&& 31)).toInt8.toInt32))), (.int (nar .byte ((c1 >>> ((8 : Int32) &&& 31)).toInt8.toInt32))), (.int (nar .byte (c1.toInt8.toInt32))), (.int (nar .byte ((XT.ushr c1 (24 : Int32)).toInt8.toInt32))), (.int (nar .byte ((c2 >>> ((16 : Int32) &&& 31)).toInt8.toInt32))), (.int (nar .byte ((c2 >>> ((8 : Int32) &&& 31)).toInt8.toInt32))), (.int (nar .byte (c2.toInt8.toInt32))), (.int (nar .byte ((XT.ushr c2 (24 : Int32)).toInt8.toInt32))), (.int (nar .byte ((c3 >>> ((16 : Int32) &&& 31)).toInt8.toInt32))), (.int (nar .byte ((c3 >>> ((8 : Int32) &&& 31)).toInt8.toInt32))), (.int (nar .byte (c3.toInt8.toInt32))), (.int (nar .byte ((XT.ushr c3 (24 : Int32)).toInt8.toInt32))), (.int (nar .byte ((c4 >>> ((16 : Int32) &&& 31)).toInt8.toInt32))), (.int (nar .byte ((c4 >>> ((8 : Int32) &&& 31)).toInt8.toInt32))), (.int (nar .byte (c4.toInt8.toInt32))), (.int (nar .byte ((XT.ushr c4 (24 : Int32)).toInt8.toInt32))), (.int (0 : Int32)), (.int (0 : Int32)), (.int (0 : Int32)), (.int (0 : Int32))] (.int (0 : Int32)) := Va33
  have E35_0 : Exa Z h33 b1 "[B" := (E29_0.keep Kq33)
  have Z35 : n0 ≤ h33.size := (Nat.le_trans Z29 Kq33.1)
  have pre37 : ∀ t, Steps p.tables e below (T33.setTop (mkF m 51 #[.val (.int c0), .val (.int c1), .val (.int c2), .val (.int c3), .val (.int c4), .val (.int c5), .val (.ref b1), .unset] [(.int c5), (.int (20 : Int32)), (.ref b1)])) t → Steps p.tables e below (s₁.setTop (entryFrame m #[(.int c0), (.int c1), (.int c2), (.int c3), (.int c4), (.int c5)] maxLocals)) t := by
    intro t k
    refine pre34 t ?_
    refine XS.aload X33.here hx rfl (hb hby at_45) rfl rfl ?_
    show Steps p.tables e below (T33.setTop (mkF m 47 #[.val (.int c0), .val (.int c1), .val (.int c2), .val (.int c3), .val (.int c4), .val (.int c5), .val (.ref b1), .unset] [(.ref b1)])) _
    refine XS.bipush X33.here hx rfl (hb hby at_47) ?_
    show Steps p.tables e below (T33.setTop (mkF m 49 #[.val (.int c0), .val (.int c1), .val (.int c2), .val (.int c3), .val (.int c4), .val (.int c5), .val (.ref b1), .unset] [(.int (20 : Int32)), (.ref b1)])) _
    refine XS.iload X33.here hx rfl (hb hby at_49) rfl ?_
    show Steps p.tables e below (T33.setTop (mkF m 51 #[.val (.int c0), .val (.int c1), .val (.int c2), .val (.int c3), .val (.int c4), .val (.int c5), .val (.ref b1), .unset] [(.int c5), (.int (20 : Int32)), (.ref b1)])) _
    exact k
  obtain ⟨_, _, ⟨T39, L39, k39, n39⟩, -, X39, ⟨Lc39, hQ39, l39, y39, z39⟩, st39⟩ := Jvm.LawKit.callS X33 hx (y := (⟨"com/example/facetwork/facetwork/image/RgbaImageArgbPinLaw", "put", "([BII)V"⟩ : MethodName)) hown (mvT hZ (hw _ (List.mem_of_getElem? (i := 1) rfl))) (mvT hZ (hw _ (List.mem_of_getElem? (i := 2) rfl))) (mvT hZ (hw _ (List.mem_of_getElem? (i := 3) rfl))) (mvT hZ (hw _ (List.mem_of_getElem? (i := 4) rfl))) (by decide) (backOf (W := 0) (rm1 l Z a0 hw [] b1 (20 : Int32) c5 cA3 [(.int (nar .byte ((c0 >>> ((16 : Int32) &&& 31)).toInt8.toInt32))), (.int (nar .byte ((c0 >>> ((8 : Int32) &&& 31)).toInt8.toInt32))), (.int (nar .byte (c0.toInt8.toInt32))), (.int (nar .byte ((XT.ushr c0 (24 : Int32)).toInt8.toInt32))), (.int (nar .byte ((c1 >>> ((16 : Int32) &&& 31)).toInt8.toInt32))), (.int (nar .byte ((c1 >>> ((8 : Int32) &&& 31)).toInt8.toInt32))), (.int (nar .byte (c1.toInt8.toInt32))), (.int (nar .byte ((XT.ushr c1 (24 : Int32)).toInt8.toInt32))), (.int (nar .byte ((c2 >>> ((16 : Int32) &&& 31)).toInt8.toInt32))), (.int (nar .byte ((c2 >>> ((8 : Int32) &&& 31)).toInt8.toInt32))), (.int (nar .byte (c2.toInt8.toInt32))), (.int (nar .byte ((XT.ushr c2 (24 : Int32)).toInt8.toInt32))), (.int (nar .byte ((c3 >>> ((16 : Int32) &&& 31)).toInt8.toInt32))), (.int (nar .byte ((c3 >>> ((8 : Int32) &&& 31)).toInt8.toInt32))), (.int (nar .byte (c3.toInt8.toInt32))), (.int (nar .byte ((XT.ushr c3 (24 : Int32)).toInt8.toInt32))), (.int (nar .byte ((c4 >>> ((16 : Int32) &&& 31)).toInt8.toInt32))), (.int (nar .byte ((c4 >>> ((8 : Int32) &&& 31)).toInt8.toInt32))), (.int (nar .byte (c4.toInt8.toInt32))), (.int (nar .byte ((XT.ushr c4 (24 : Int32)).toInt8.toInt32))), (.int (0 : Int32)), (.int (0 : Int32)), (.int (0 : Int32)), (.int (0 : Int32))] 20 h33 n0 Z35 Vb33 g_b1 (by decide : 20 + 3 < 24) (by decide) (by decide) (by decide) (by decide) (by decide) (by decide) (by decide) (by decide)) hZ (hw _ (List.mem_of_getElem? (i := 4) rfl)) (hw _ (List.mem_of_getElem? (i := 3) rfl)) (by decide) (by decide)) (g := (mkF m 51 #[.val (.int c0), .val (.int c1), .val (.int c2), .val (.int c3), .val (.int c4), .val (.int c5), .val (.ref b1), .unset] [(.int c5), (.int (20 : Int32)), (.ref b1)])) rfl (by rw [hml]; rfl) (argsL := [(.ref b1), (.int (20 : Int32)), (.int c5)]) (rest := []) (lenOf pd_put rfl) rfl (by show 2 * 0 + _ ≤ _; exact Nat.le_of_eq rfl) (hb hby at_51) (fun _ _ => ⟨rfl, e33, (by decide : 1 + 0 ≤ _), (by decide : 24 + 0 ≤ _)⟩)
  dsimp only [Pt.U, Pt.locs, Pt.cells, Pt.slots] at X39 l39 y39 z39 st39 hQ39
  subst l39 y39 z39
  obtain ⟨rfl, Nq39, Kq39, Va39⟩ := hQ39
  have N39 := Fr.app N33 Nq39
  have pre40 : ∀ t, Steps p.tables e below (T39.setTop (mkF m 54 #[.val (.int c0), .val (.int c1), .val (.int c2), .val (.int c3), .val (.int c4), .val (.int c5), .val (.ref b1), .unset] [])) t → Steps p.tables e below (s₁.setTop (entryFrame m #[(.int c0), (.int c1), (.int c2), (.int c3), (.int c4), (.int c5)] maxLocals)) t := fun t k => pre37 t (st39 t k)
  obtain ⟨h39, e39⟩ : ∃ z, T39.heap = z := ⟨_, rfl⟩
  rw [e39] at Kq39 Va39
  have Vb39 : Arv Z h39 b1 cA3 .byte (24 : Int32) [(.int (nar .byte ((c0 >>> ((16 : Int32) &&& 31)).toInt8.toInt32))), (.int (nar .byte ((c0 >>> ((8 : Int32) &&& 31)).toInt8.toInt32))), (.int (nar .byte (c0.toInt8.toInt32))), (.int (nar .byte ((XT.ushr c0 (24 : Int32)).toInt8.toInt32))), (.int (nar .byte ((c1 >>> ((16 : Int32) &&& 31)).toInt8.toInt32))), (.int (nar .byte ((c1 >>> ((8 : Int32) &&& 31)).toInt8.toInt32))), (.int (nar .byte (c1.toInt8.toInt32))), (.int (nar .byte ((XT.ushr c1 (24 : Int32)).toInt8.toInt32))), (.int (nar .byte ((c2 >>> ((16 : Int32) &&& 31)).toInt8.toInt32))), (.int (nar .byte ((c2 >>> ((8 : Int32) &&& 31)).toInt8.toInt32))), (.int (nar .byte (c2.toInt8.toInt32))), (.int (nar .byte ((XT.ushr c2 (24 : Int32)).toInt8.toInt32))), (.int (nar .byte ((c3 >>> ((16 : Int32) &&& 31)).toInt8.toInt32))), (.int (nar .byte ((c3 >>> ((8 : Int32) &&& 31)).toInt8.toInt32))), (.int (nar .byte (c3.toInt8.toInt32))), (.int (nar .byte ((XT.ushr c3 (24 : Int32)).toInt8.toInt32))), (.int (nar .byte ((c4 >>> ((16 : Int32) &&& 31)).toInt8.toInt32))), (.int (nar .byte ((c4 >>> ((8 : Int32) &&& 31)).toInt8.toInt32))), (.int (nar .byte (c4.toInt8.toInt32))), (.int (nar .byte ((XT.ushr c4 (24 : Int32)).toInt8.toInt32))), (.int (nar .byte ((c5 >>> ((16 : Int32) &&& 31)).toInt8.toInt32))), (.int (nar .byte ((c5 >>> ((8 : Int32) &&& 31)).toInt8.toInt32))), (.int (nar .byte (c5.toInt8.toInt32))), (.int (nar .byte ((XT.ushr c5 (24 : Int32)).toInt8.toInt32)))] (.int (0 : Int32)) := Va39
  have E41_0 : Exa Z h39 b1 "[B" := (E35_0.keep Kq39)
  have Z41 : n0 ≤ h39.size := (Nat.le_trans Z35 Kq39.1)
  obtain ⟨T43, h43, X43, e43, E43, A43, D43, -, st43⟩ := newO X39 hx hZ hown (hw _ (List.mem_of_getElem? (i := 5) rfl)) (hw _ (List.mem_of_getElem? (i := 6) rfl)) (hw _ (List.mem_of_getElem? (i := 7) rfl)) e39 (g := (mkF m 54 #[.val (.int c0), .val (.int c1), .val (.int c2), .val (.int c3), .val (.int c4), .val (.int c5), .val (.ref b1), .unset] [])) rfl (hb hby at_54) (by decide) (by decide)
  obtain ⟨b2, gz43⟩ : ∃ z, z = h39.size := ⟨_, rfl⟩
  rw [← gz43] at A43 D43 st43
  have g_b2 : n0 ≤ b2 := Nat.le_trans Z41 (Nat.le_of_eq gz43.symm)
  have ne_b1_b2 : b1 ≠ b2 := by rw [gz43]; exact Nat.ne_of_lt E41_0.lt
  have F_width_b2 : Fld Z h43 b2 "com/example/facetwork/facetwork/image/RgbaImage" "width" "I" (.int (0 : Int32)) := D43 (Or.inr (hw _ (List.mem_of_getElem? (i := 16) rfl))) (ty := .int) (by decide)
  have F_height_b2 : Fld Z h43 b2 "com/example/facetwork/facetwork/image/RgbaImage" "height" "I" (.int (0 : Int32)) := D43 (Or.inr (hw _ (List.mem_of_getElem? (i := 18) rfl))) (ty := .int) (by decide)
  have F_pixels_b2 : Fld Z h43 b2 "com/example/facetwork/facetwork/image/RgbaImage" "pixels" "[B" .null := D43 (Or.inr (hw _ (List.mem_of_getElem? (i := 29) rfl))) (ty := (.array .byte)) (by decide)
  have pre44 : ∀ t, Steps p.tables e below (T43.setTop (mkF m 57 #[.val (.int c0), .val (.int c1), .val (.int c2), .val (.int c3), .val (.int c4), .val (.int c5), .val (.ref b1), .unset] [(.ref b2)])) t → Steps p.tables e below (s₁.setTop (entryFrame m #[(.int c0), (.int c1), (.int c2), (.int c3), (.int c4), (.int c5)] maxLocals)) t := fun t k => pre40 t (st43 t k)
  have E45_0 : Exa Z h43 b1 "[B" := (E41_0.ext E43)
  have V45_0 : Arv Z h43 b1 cA3 .byte (24 : Int32) [(.int (nar .byte ((c0 >>> ((16 : Int32) &&& 31)).toInt8.toInt32))), (.int (nar .byte ((c0 >>> ((8 : Int32) &&& 31)).toInt8.toInt32))), (.int (nar .byte (c0.toInt8.toInt32))), (.int (nar .byte ((XT.ushr c0 (24 : Int32)).toInt8.toInt32))), (.int (nar .byte ((c1 >>> ((16 : Int32) &&& 31)).toInt8.toInt32))), (.int (nar .byte ((c1 >>> ((8 : Int32) &&& 31)).toInt8.toInt32))), (.int (nar .byte (c1.toInt8.toInt32))), (.int (nar .byte ((XT.ushr c1 (24 : Int32)).toInt8.toInt32))), (.int (nar .byte ((c2 >>> ((16 : Int32) &&& 31)).toInt8.toInt32))), (.int (nar .byte ((c2 >>> ((8 : Int32) &&& 31)).toInt8.toInt32))), (.int (nar .byte (c2.toInt8.toInt32))), (.int (nar .byte ((XT.ushr c2 (24 : Int32)).toInt8.toInt32))), (.int (nar .byte ((c3 >>> ((16 : Int32) &&& 31)).toInt8.toInt32))), (.int (nar .byte ((c3 >>> ((8 : Int32) &&& 31)).toInt8.toInt32))), (.int (nar .byte (c3.toInt8.toInt32))), (.int (nar .byte ((XT.ushr c3 (24 : Int32)).toInt8.toInt32))), (.int (nar .byte ((c4 >>> ((16 : Int32) &&& 31)).toInt8.toInt32))), (.int (nar .byte ((c4 >>> ((8 : Int32) &&& 31)).toInt8.toInt32))), (.int (nar .byte (c4.toInt8.toInt32))), (.int (nar .byte ((XT.ushr c4 (24 : Int32)).toInt8.toInt32))), (.int (nar .byte ((c5 >>> ((16 : Int32) &&& 31)).toInt8.toInt32))), (.int (nar .byte ((c5 >>> ((8 : Int32) &&& 31)).toInt8.toInt32))), (.int (nar .byte (c5.toInt8.toInt32))), (.int (nar .byte ((XT.ushr c5 (24 : Int32)).toInt8.toInt32)))] (.int (0 : Int32)) := (Vb39.ext E43)
  have Z45 : n0 ≤ h43.size := (Nat.le_trans Z41 E43.1)
  have pre47 : ∀ t, Steps p.tables e below (T43.setTop (mkF m 62 #[.val (.int c0), .val (.int c1), .val (.int c2), .val (.int c3), .val (.int c4), .val (.int c5), .val (.ref b1), .unset] [(.ref b1), (.int (2 : Int32)), (.int (3 : Int32)), (.ref b2), (.ref b2)])) t → Steps p.tables e below (s₁.setTop (entryFrame m #[(.int c0), (.int c1), (.int c2), (.int c3), (.int c4), (.int c5)] maxLocals)) t := by
    intro t k
    refine pre44 t ?_
    refine XS.dup X43.here hx rfl (hb hby at_57) rfl rfl ?_
    show Steps p.tables e below (T43.setTop (mkF m 58 #[.val (.int c0), .val (.int c1), .val (.int c2), .val (.int c3), .val (.int c4), .val (.int c5), .val (.ref b1), .unset] [(.ref b2), (.ref b2)])) _
    refine XS.iconst X43.here hx rfl (hb hby at_58) ?_
    show Steps p.tables e below (T43.setTop (mkF m 59 #[.val (.int c0), .val (.int c1), .val (.int c2), .val (.int c3), .val (.int c4), .val (.int c5), .val (.ref b1), .unset] [(.int (3 : Int32)), (.ref b2), (.ref b2)])) _
    refine XS.iconst X43.here hx rfl (hb hby at_59) ?_
    show Steps p.tables e below (T43.setTop (mkF m 60 #[.val (.int c0), .val (.int c1), .val (.int c2), .val (.int c3), .val (.int c4), .val (.int c5), .val (.ref b1), .unset] [(.int (2 : Int32)), (.int (3 : Int32)), (.ref b2), (.ref b2)])) _
    refine XS.aload X43.here hx rfl (hb hby at_60) rfl rfl ?_
    show Steps p.tables e below (T43.setTop (mkF m 62 #[.val (.int c0), .val (.int c1), .val (.int c2), .val (.int c3), .val (.int c4), .val (.int c5), .val (.ref b1), .unset] [(.ref b1), (.int (2 : Int32)), (.int (3 : Int32)), (.ref b2), (.ref b2)])) _
    exact k
  obtain ⟨_, _, ⟨T49, L49, k49, n49⟩, -, X49, ⟨Lc49, hQ49, l49, y49, z49⟩, st49⟩ := X43.specialBack hx (y := (⟨"com/example/facetwork/facetwork/image/RgbaImage", "<init>", "(II[B)V"⟩ : MethodName)) rfl hown (mvT hZ (hw _ (List.mem_of_getElem? (i := 8) rfl))) (mvT hZ (hw _ (List.mem_of_getElem? (i := 9) rfl))) (mvT hZ (hw _ (List.mem_of_getElem? (i := 10) rfl))) (by decide) (backOf (W := 1) (rm2 l Z a0 hw [] b2 (3 : Int32) (2 : Int32) b1 cA3 (24 : Int32) [(.int (nar .byte ((c0 >>> ((16 : Int32) &&& 31)).toInt8.toInt32))), (.int (nar .byte ((c0 >>> ((8 : Int32) &&& 31)).toInt8.toInt32))), (.int (nar .byte (c0.toInt8.toInt32))), (.int (nar .byte ((XT.ushr c0 (24 : Int32)).toInt8.toInt32))), (.int (nar .byte ((c1 >>> ((16 : Int32) &&& 31)).toInt8.toInt32))), (.int (nar .byte ((c1 >>> ((8 : Int32) &&& 31)).toInt8.toInt32))), (.int (nar .byte (c1.toInt8.toInt32))), (.int (nar .byte ((XT.ushr c1 (24 : Int32)).toInt8.toInt32))), (.int (nar .byte ((c2 >>> ((16 : Int32) &&& 31)).toInt8.toInt32))), (.int (nar .byte ((c2 >>> ((8 : Int32) &&& 31)).toInt8.toInt32))), (.int (nar .byte (c2.toInt8.toInt32))), (.int (nar .byte ((XT.ushr c2 (24 : Int32)).toInt8.toInt32))), (.int (nar .byte ((c3 >>> ((16 : Int32) &&& 31)).toInt8.toInt32))), (.int (nar .byte ((c3 >>> ((8 : Int32) &&& 31)).toInt8.toInt32))), (.int (nar .byte (c3.toInt8.toInt32))), (.int (nar .byte ((XT.ushr c3 (24 : Int32)).toInt8.toInt32))), (.int (nar .byte ((c4 >>> ((16 : Int32) &&& 31)).toInt8.toInt32))), (.int (nar .byte ((c4 >>> ((8 : Int32) &&& 31)).toInt8.toInt32))), (.int (nar .byte (c4.toInt8.toInt32))), (.int (nar .byte ((XT.ushr c4 (24 : Int32)).toInt8.toInt32))), (.int (nar .byte ((c5 >>> ((16 : Int32) &&& 31)).toInt8.toInt32))), (.int (nar .byte ((c5 >>> ((8 : Int32) &&& 31)).toInt8.toInt32))), (.int (nar .byte (c5.toInt8.toInt32))), (.int (nar .byte ((XT.ushr c5 (24 : Int32)).toInt8.toInt32)))] h43 n0 Z45 A43 g_b2 F_width_b2 F_height_b2 F_pixels_b2 E45_0 V45_0 ne_b1_b2.symm (by decide) (by decide) (by decide) (by decide)) hZ (hw _ (List.mem_of_getElem? (i := 10) rfl)) (hw _ (List.mem_of_getElem? (i := 7) rfl)) (by decide) (by decide)) (g := (mkF m 62 #[.val (.int c0), .val (.int c1), .val (.int c2), .val (.int c3), .val (.int c4), .val (.int c5), .val (.ref b1), .unset] [(.ref b1), (.int (2 : Int32)), (.int (3 : Int32)), (.ref b2), (.ref b2)])) rfl (by rw [hml]; rfl) (Steps.refl _) (a := b2) (argsL := [(.int (3 : Int32)), (.int (2 : Int32)), (.ref b1)]) (rest := [(.ref b2)]) (lenOf pd_img rfl) rfl (by show 2 * 0 + _ ≤ _; exact Nat.le_of_eq rfl) (hb hby at_62) (fun _ _ => ⟨rfl, e43, (by decide : 2 + 1 ≤ _), (by decide : 27 + 24 ≤ _)⟩)
  dsimp only [Pt.U, Pt.locs, Pt.cells, Pt.slots] at X49 l49 y49 z49 st49 hQ49
  subst l49 y49 z49
  obtain ⟨pa, rfl, Nq49, Kq49, gq49, Fa49, Fb49, Fc49, Eq49, Vq49⟩ := hQ49
  have N49 := Fr.app N39 Nq49
  have pre50 : ∀ t, Steps p.tables e below (T49.setTop (mkF m 65 #[.val (.int c0), .val (.int c1), .val (.int c2), .val (.int c3), .val (.int c4), .val (.int c5), .val (.ref b1), .unset] [(.ref b2)])) t → Steps p.tables e below (s₁.setTop (entryFrame m #[(.int c0), (.int c1), (.int c2), (.int c3), (.int c4), (.int c5)] maxLocals)) t := fun t k => pre47 t (st49.trans k)
  obtain ⟨h49, e49⟩ : ∃ z, T49.heap = z := ⟨_, rfl⟩
  have g_pa : n0 ≤ pa := Nat.le_trans Z45 gq49
  have ne_b2_pa : b2 ≠ pa := Nat.ne_of_lt (Nat.lt_of_lt_of_le F_width_b2.lt gq49)
  have ne_b1_pa : b1 ≠ pa := Nat.ne_of_lt (Nat.lt_of_lt_of_le E45_0.lt gq49)
  rw [e49] at Kq49 Fa49 Fb49 Fc49 Eq49 Vq49
  have E51_0 : Exa Z h49 b1 "[B" := (E45_0.keep Kq49)
  have E51_1 : Exa Z h49 b2 "com/example/facetwork/facetwork/image/RgbaImage" := (A43.keep Kq49)
  have V51_0 : Arv Z h49 b1 cA3 .byte (24 : Int32) [(.int (nar .byte ((c0 >>> ((16 : Int32) &&& 31)).toInt8.toInt32))), (.int (nar .byte ((c0 >>> ((8 : Int32) &&& 31)).toInt8.toInt32))), (.int (nar .byte (c0.toInt8.toInt32))), (.int (nar .byte ((XT.ushr c0 (24 : Int32)).toInt8.toInt32))), (.int (nar .byte ((c1 >>> ((16 : Int32) &&& 31)).toInt8.toInt32))), (.int (nar .byte ((c1 >>> ((8 : Int32) &&& 31)).toInt8.toInt32))), (.int (nar .byte (c1.toInt8.toInt32))), (.int (nar .byte ((XT.ushr c1 (24 : Int32)).toInt8.toInt32))), (.int (nar .byte ((c2 >>> ((16 : Int32) &&& 31)).toInt8.toInt32))), (.int (nar .byte ((c2 >>> ((8 : Int32) &&& 31)).toInt8.toInt32))), (.int (nar .byte (c2.toInt8.toInt32))), (.int (nar .byte ((XT.ushr c2 (24 : Int32)).toInt8.toInt32))), (.int (nar .byte ((c3 >>> ((16 : Int32) &&& 31)).toInt8.toInt32))), (.int (nar .byte ((c3 >>> ((8 : Int32) &&& 31)).toInt8.toInt32))), (.int (nar .byte (c3.toInt8.toInt32))), (.int (nar .byte ((XT.ushr c3 (24 : Int32)).toInt8.toInt32))), (.int (nar .byte ((c4 >>> ((16 : Int32) &&& 31)).toInt8.toInt32))), (.int (nar .byte ((c4 >>> ((8 : Int32) &&& 31)).toInt8.toInt32))), (.int (nar .byte (c4.toInt8.toInt32))), (.int (nar .byte ((XT.ushr c4 (24 : Int32)).toInt8.toInt32))), (.int (nar .byte ((c5 >>> ((16 : Int32) &&& 31)).toInt8.toInt32))), (.int (nar .byte ((c5 >>> ((8 : Int32) &&& 31)).toInt8.toInt32))), (.int (nar .byte (c5.toInt8.toInt32))), (.int (nar .byte ((XT.ushr c5 (24 : Int32)).toInt8.toInt32)))] (.int (0 : Int32)) := (V45_0.keep Kq49 (ninS ne_b1_b2 nin0))
  have Z51 : n0 ≤ h49.size := (Nat.le_trans Z45 Kq49.1)
  have pre53 : ∀ t, Steps p.tables e below (T49.setTop (mkF m 71 #[.val (.int c0), .val (.int c1), .val (.int c2), .val (.int c3), .val (.int c4), .val (.int c5), .val (.ref b1), .val (.ref b2)] [(.int (0 : Int32)), (.int (0 : Int32)), (.ref b2)])) t → Steps p.tables e below (s₁.setTop (entryFrame m #[(.int c0), (.int c1), (.int c2), (.int c3), (.int c4), (.int c5)] maxLocals)) t := by
    intro t k
    refine pre50 t ?_
    refine XS.astore X49.here hx rfl (hb hby at_65) rfl rfl (l' := #[.val (.int c0), .val (.int c1), .val (.int c2), .val (.int c3), .val (.int c4), .val (.int c5), .val (.ref b1), .val (.ref b2)]) rfl ?_
    show Steps p.tables e below (T49.setTop (mkF m 67 #[.val (.int c0), .val (.int c1), .val (.int c2), .val (.int c3), .val (.int c4), .val (.int c5), .val (.ref b1), .val (.ref b2)] [])) _
    refine XS.aload X49.here hx rfl (hb hby at_67) rfl rfl ?_
    show Steps p.tables e below (T49.setTop (mkF m 69 #[.val (.int c0), .val (.int c1), .val (.int c2), .val (.int c3), .val (.int c4), .val (.int c5), .val (.ref b1), .val (.ref b2)] [(.ref b2)])) _
    refine XS.iconst X49.here hx rfl (hb hby at_69) ?_
    show Steps p.tables e below (T49.setTop (mkF m 70 #[.val (.int c0), .val (.int c1), .val (.int c2), .val (.int c3), .val (.int c4), .val (.int c5), .val (.ref b1), .val (.ref b2)] [(.int (0 : Int32)), (.ref b2)])) _
    refine XS.iconst X49.here hx rfl (hb hby at_70) ?_
    show Steps p.tables e below (T49.setTop (mkF m 71 #[.val (.int c0), .val (.int c1), .val (.int c2), .val (.int c3), .val (.int c4), .val (.int c5), .val (.ref b1), .val (.ref b2)] [(.int (0 : Int32)), (.int (0 : Int32)), (.ref b2)])) _
    exact k
  obtain ⟨cq55, kq55, q55a, q55b, q55c⟩ := isOf hZ e49 E51_1
  obtain ⟨_, _, ⟨T55, L55, k55, n55⟩, -, X55, ⟨Lc55, hQ55, l55, y55, z55⟩, st55⟩ := X49.virtualBack hx (y := (⟨"com/example/facetwork/facetwork/image/RgbaImage", "argb", "(II)I"⟩ : MethodName)) (z := (⟨"com/example/facetwork/facetwork/image/RgbaImage", "argb", "(II)I"⟩ : MethodName)) hown (mvT hZ (hw _ (List.mem_of_getElem? (i := 30) rfl))) (mvT hZ (hw _ (List.mem_of_getElem? (i := 31) rfl))) (notFace_of_selects (args := #[]) (mvT hZ (hw _ (List.mem_of_getElem? (i := 33) rfl)))) (mvT hZ (hw _ (List.mem_of_getElem? (i := 33) rfl))) (mvT hZ (hw _ (List.mem_of_getElem? (i := 32) rfl))) (by decide) (backOf (W := 0) (rm4 l Z a0 hw [] b2 (0 : Int32) (0 : Int32) (3 : Int32) (2 : Int32) pa cA3 [(.int (nar .byte ((c0 >>> ((16 : Int32) &&& 31)).toInt8.toInt32))), (.int (nar .byte ((c0 >>> ((8 : Int32) &&& 31)).toInt8.toInt32))), (.int (nar .byte (c0.toInt8.toInt32))), (.int (nar .byte ((XT.ushr c0 (24 : Int32)).toInt8.toInt32))), (.int (nar .byte ((c1 >>> ((16 : Int32) &&& 31)).toInt8.toInt32))), (.int (nar .byte ((c1 >>> ((8 : Int32) &&& 31)).toInt8.toInt32))), (.int (nar .byte (c1.toInt8.toInt32))), (.int (nar .byte ((XT.ushr c1 (24 : Int32)).toInt8.toInt32))), (.int (nar .byte ((c2 >>> ((16 : Int32) &&& 31)).toInt8.toInt32))), (.int (nar .byte ((c2 >>> ((8 : Int32) &&& 31)).toInt8.toInt32))), (.int (nar .byte (c2.toInt8.toInt32))), (.int (nar .byte ((XT.ushr c2 (24 : Int32)).toInt8.toInt32))), (.int (nar .byte ((c3 >>> ((16 : Int32) &&& 31)).toInt8.toInt32))), (.int (nar .byte ((c3 >>> ((8 : Int32) &&& 31)).toInt8.toInt32))), (.int (nar .byte (c3.toInt8.toInt32))), (.int (nar .byte ((XT.ushr c3 (24 : Int32)).toInt8.toInt32))), (.int (nar .byte ((c4 >>> ((16 : Int32) &&& 31)).toInt8.toInt32))), (.int (nar .byte ((c4 >>> ((8 : Int32) &&& 31)).toInt8.toInt32))), (.int (nar .byte (c4.toInt8.toInt32))), (.int (nar .byte ((XT.ushr c4 (24 : Int32)).toInt8.toInt32))), (.int (nar .byte ((c5 >>> ((16 : Int32) &&& 31)).toInt8.toInt32))), (.int (nar .byte ((c5 >>> ((8 : Int32) &&& 31)).toInt8.toInt32))), (.int (nar .byte (c5.toInt8.toInt32))), (.int (nar .byte ((XT.ushr c5 (24 : Int32)).toInt8.toInt32)))] (nar .byte ((XT.ushr c0 (24 : Int32)).toInt8.toInt32)) (nar .byte ((c0 >>> ((16 : Int32) &&& 31)).toInt8.toInt32)) (nar .byte ((c0 >>> ((8 : Int32) &&& 31)).toInt8.toInt32)) (nar .byte (c0.toInt8.toInt32)) h49 n0 Z51 Fa49 Fb49 Fc49 Vq49 (by decide) (by decide) (by decide) (by decide) (by decide) (by decide) (by decide) (by decide) rfl rfl rfl rfl) hZ (hw _ (List.mem_of_getElem? (i := 34) rfl)) (hw _ (List.mem_of_getElem? (i := 7) rfl)) (by decide) (by decide)) q55a q55c (g := (mkF m 71 #[.val (.int c0), .val (.int c1), .val (.int c2), .val (.int c3), .val (.int c4), .val (.int c5), .val (.ref b1), .val (.ref b2)] [(.int (0 : Int32)), (.int (0 : Int32)), (.ref b2)])) rfl (by rw [hml]; rfl) (Steps.refl _) (argsL := [(.int (0 : Int32)), (.int (0 : Int32))]) (rest := []) (lenOf pd_argb rfl) rfl (by show 2 * 0 + _ ≤ _; exact Nat.le_of_eq rfl) (hb hby at_71) (fun _ _ => ⟨rfl, e49, (by decide : 3 + 0 ≤ _), (by decide : 51 + 0 ≤ _)⟩)
  dsimp only [Pt.U, Pt.locs, Pt.cells, Pt.slots] at X55 l55 y55 z55 st55 hQ55
  subst l55 y55 z55
  obtain ⟨rfl, Nq55, heq55⟩ := hQ55
  have N55 := Fr.app N49 Nq55
  have pre56 : ∀ t, Steps p.tables e below (T55.setTop (mkF m 74 #[.val (.int c0), .val (.int c1), .val (.int c2), .val (.int c3), .val (.int c4), .val (.int c5), .val (.ref b1), .val (.ref b2)] [(.int (own_px (nar .byte ((XT.ushr c0 (24 : Int32)).toInt8.toInt32)) (nar .byte ((c0 >>> ((16 : Int32) &&& 31)).toInt8.toInt32)) (nar .byte ((c0 >>> ((8 : Int32) &&& 31)).toInt8.toInt32)) (nar .byte (c0.toInt8.toInt32))))])) t → Steps p.tables e below (s₁.setTop (entryFrame m #[(.int c0), (.int c1), (.int c2), (.int c3), (.int c4), (.int c5)] maxLocals)) t := fun t k => pre53 t (st55.trans k)
  have pre58 : ∀ t, Steps p.tables e below (T55.setTop (mkF m 82 #[.val (.int c0), .val (.int c1), .val (.int c2), .val (.int c3), .val (.int c4), .val (.int c5), .val (.ref b1), .val (.ref b2)] [(.int (0 : Int32)), (.int (1 : Int32)), (.ref b2)])) t → Steps p.tables e below (s₁.setTop (entryFrame m #[(.int c0), (.int c1), (.int c2), (.int c3), (.int c4), (.int c5)] maxLocals)) t := by
    intro t k
    refine pre56 t ?_
    refine XS.iloadN X55.here hx rfl (hb hby at_74) rfl ?_
    show Steps p.tables e below (T55.setTop (mkF m 75 #[.val (.int c0), .val (.int c1), .val (.int c2), .val (.int c3), .val (.int c4), .val (.int c5), .val (.ref b1), .val (.ref b2)] [(.int c0), (.int (own_px (nar .byte ((XT.ushr c0 (24 : Int32)).toInt8.toInt32)) (nar .byte ((c0 >>> ((16 : Int32) &&& 31)).toInt8.toInt32)) (nar .byte ((c0 >>> ((8 : Int32) &&& 31)).toInt8.toInt32)) (nar .byte (c0.toInt8.toInt32))))])) _
    refine XS.icmpNo X55.here hx rfl (hb hby at_75) rfl (XT.ii_ne_f (own_back c0)) ?_
    show Steps p.tables e below (T55.setTop (mkF m 78 #[.val (.int c0), .val (.int c1), .val (.int c2), .val (.int c3), .val (.int c4), .val (.int c5), .val (.ref b1), .val (.ref b2)] [])) _
    refine XS.aload X55.here hx rfl (hb hby at_78) rfl rfl ?_
    show Steps p.tables e below (T55.setTop (mkF m 80 #[.val (.int c0), .val (.int c1), .val (.int c2), .val (.int c3), .val (.int c4), .val (.int c5), .val (.ref b1), .val (.ref b2)] [(.ref b2)])) _
    refine XS.iconst X55.here hx rfl (hb hby at_80) ?_
    show Steps p.tables e below (T55.setTop (mkF m 81 #[.val (.int c0), .val (.int c1), .val (.int c2), .val (.int c3), .val (.int c4), .val (.int c5), .val (.ref b1), .val (.ref b2)] [(.int (1 : Int32)), (.ref b2)])) _
    refine XS.iconst X55.here hx rfl (hb hby at_81) ?_
    show Steps p.tables e below (T55.setTop (mkF m 82 #[.val (.int c0), .val (.int c1), .val (.int c2), .val (.int c3), .val (.int c4), .val (.int c5), .val (.ref b1), .val (.ref b2)] [(.int (0 : Int32)), (.int (1 : Int32)), (.ref b2)])) _
    exact k
  obtain ⟨cq60, kq60, q60a, q60b, q60c⟩ := isOf hZ heq55 E51_1
  obtain ⟨_, _, ⟨T60, L60, k60, n60⟩, -, X60, ⟨Lc60, hQ60, l60, y60, z60⟩, st60⟩ := X55.virtualBack hx (y := (⟨"com/example/facetwork/facetwork/image/RgbaImage", "argb", "(II)I"⟩ : MethodName)) (z := (⟨"com/example/facetwork/facetwork/image/RgbaImage", "argb", "(II)I"⟩ : MethodName)) hown (mvT hZ (hw _ (List.mem_of_getElem? (i := 30) rfl))) (mvT hZ (hw _ (List.mem_of_getElem? (i := 31) rfl))) (notFace_of_selects (args := #[]) (mvT hZ (hw _ (List.mem_of_getElem? (i := 33) rfl)))) (mvT hZ (hw _ (List.mem_of_getElem? (i := 33) rfl))) (mvT hZ (hw _ (List.mem_of_getElem? (i := 32) rfl))) (by decide) (backOf (W := 0) (rm4 l Z a0 hw [] b2 (1 : Int32) (0 : Int32) (3 : Int32) (2 : Int32) pa cA3 [(.int (nar .byte ((c0 >>> ((16 : Int32) &&& 31)).toInt8.toInt32))), (.int (nar .byte ((c0 >>> ((8 : Int32) &&& 31)).toInt8.toInt32))), (.int (nar .byte (c0.toInt8.toInt32))), (.int (nar .byte ((XT.ushr c0 (24 : Int32)).toInt8.toInt32))), (.int (nar .byte ((c1 >>> ((16 : Int32) &&& 31)).toInt8.toInt32))), (.int (nar .byte ((c1 >>> ((8 : Int32) &&& 31)).toInt8.toInt32))), (.int (nar .byte (c1.toInt8.toInt32))), (.int (nar .byte ((XT.ushr c1 (24 : Int32)).toInt8.toInt32))), (.int (nar .byte ((c2 >>> ((16 : Int32) &&& 31)).toInt8.toInt32))), (.int (nar .byte ((c2 >>> ((8 : Int32) &&& 31)).toInt8.toInt32))), (.int (nar .byte (c2.toInt8.toInt32))), (.int (nar .byte ((XT.ushr c2 (24 : Int32)).toInt8.toInt32))), (.int (nar .byte ((c3 >>> ((16 : Int32) &&& 31)).toInt8.toInt32))), (.int (nar .byte ((c3 >>> ((8 : Int32) &&& 31)).toInt8.toInt32))), (.int (nar .byte (c3.toInt8.toInt32))), (.int (nar .byte ((XT.ushr c3 (24 : Int32)).toInt8.toInt32))), (.int (nar .byte ((c4 >>> ((16 : Int32) &&& 31)).toInt8.toInt32))), (.int (nar .byte ((c4 >>> ((8 : Int32) &&& 31)).toInt8.toInt32))), (.int (nar .byte (c4.toInt8.toInt32))), (.int (nar .byte ((XT.ushr c4 (24 : Int32)).toInt8.toInt32))), (.int (nar .byte ((c5 >>> ((16 : Int32) &&& 31)).toInt8.toInt32))), (.int (nar .byte ((c5 >>> ((8 : Int32) &&& 31)).toInt8.toInt32))), (.int (nar .byte (c5.toInt8.toInt32))), (.int (nar .byte ((XT.ushr c5 (24 : Int32)).toInt8.toInt32)))] (nar .byte ((XT.ushr c1 (24 : Int32)).toInt8.toInt32)) (nar .byte ((c1 >>> ((16 : Int32) &&& 31)).toInt8.toInt32)) (nar .byte ((c1 >>> ((8 : Int32) &&& 31)).toInt8.toInt32)) (nar .byte (c1.toInt8.toInt32)) h49 n0 Z51 Fa49 Fb49 Fc49 Vq49 (by decide) (by decide) (by decide) (by decide) (by decide) (by decide) (by decide) (by decide) rfl rfl rfl rfl) hZ (hw _ (List.mem_of_getElem? (i := 34) rfl)) (hw _ (List.mem_of_getElem? (i := 7) rfl)) (by decide) (by decide)) q60a q60c (g := (mkF m 82 #[.val (.int c0), .val (.int c1), .val (.int c2), .val (.int c3), .val (.int c4), .val (.int c5), .val (.ref b1), .val (.ref b2)] [(.int (0 : Int32)), (.int (1 : Int32)), (.ref b2)])) rfl (by rw [hml]; rfl) (Steps.refl _) (argsL := [(.int (1 : Int32)), (.int (0 : Int32))]) (rest := []) (lenOf pd_argb rfl) rfl (by show 2 * 0 + _ ≤ _; exact Nat.le_of_eq rfl) (hb hby at_82) (fun _ _ => ⟨rfl, heq55, (by decide : 3 + 0 ≤ _), (by decide : 51 + 0 ≤ _)⟩)
  dsimp only [Pt.U, Pt.locs, Pt.cells, Pt.slots] at X60 l60 y60 z60 st60 hQ60
  subst l60 y60 z60
  obtain ⟨rfl, Nq60, heq60⟩ := hQ60
  have N60 := Fr.app N55 Nq60
  have pre61 : ∀ t, Steps p.tables e below (T60.setTop (mkF m 85 #[.val (.int c0), .val (.int c1), .val (.int c2), .val (.int c3), .val (.int c4), .val (.int c5), .val (.ref b1), .val (.ref b2)] [(.int (own_px (nar .byte ((XT.ushr c1 (24 : Int32)).toInt8.toInt32)) (nar .byte ((c1 >>> ((16 : Int32) &&& 31)).toInt8.toInt32)) (nar .byte ((c1 >>> ((8 : Int32) &&& 31)).toInt8.toInt32)) (nar .byte (c1.toInt8.toInt32))))])) t → Steps p.tables e below (s₁.setTop (entryFrame m #[(.int c0), (.int c1), (.int c2), (.int c3), (.int c4), (.int c5)] maxLocals)) t := fun t k => pre58 t (st60.trans k)
  have pre63 : ∀ t, Steps p.tables e below (T60.setTop (mkF m 93 #[.val (.int c0), .val (.int c1), .val (.int c2), .val (.int c3), .val (.int c4), .val (.int c5), .val (.ref b1), .val (.ref b2)] [(.int (0 : Int32)), (.int (2 : Int32)), (.ref b2)])) t → Steps p.tables e below (s₁.setTop (entryFrame m #[(.int c0), (.int c1), (.int c2), (.int c3), (.int c4), (.int c5)] maxLocals)) t := by
    intro t k
    refine pre61 t ?_
    refine XS.iloadN X60.here hx rfl (hb hby at_85) rfl ?_
    show Steps p.tables e below (T60.setTop (mkF m 86 #[.val (.int c0), .val (.int c1), .val (.int c2), .val (.int c3), .val (.int c4), .val (.int c5), .val (.ref b1), .val (.ref b2)] [(.int c1), (.int (own_px (nar .byte ((XT.ushr c1 (24 : Int32)).toInt8.toInt32)) (nar .byte ((c1 >>> ((16 : Int32) &&& 31)).toInt8.toInt32)) (nar .byte ((c1 >>> ((8 : Int32) &&& 31)).toInt8.toInt32)) (nar .byte (c1.toInt8.toInt32))))])) _
    refine XS.icmpNo X60.here hx rfl (hb hby at_86) rfl (XT.ii_ne_f (own_back c1)) ?_
    show Steps p.tables e below (T60.setTop (mkF m 89 #[.val (.int c0), .val (.int c1), .val (.int c2), .val (.int c3), .val (.int c4), .val (.int c5), .val (.ref b1), .val (.ref b2)] [])) _
    refine XS.aload X60.here hx rfl (hb hby at_89) rfl rfl ?_
    show Steps p.tables e below (T60.setTop (mkF m 91 #[.val (.int c0), .val (.int c1), .val (.int c2), .val (.int c3), .val (.int c4), .val (.int c5), .val (.ref b1), .val (.ref b2)] [(.ref b2)])) _
    refine XS.iconst X60.here hx rfl (hb hby at_91) ?_
    show Steps p.tables e below (T60.setTop (mkF m 92 #[.val (.int c0), .val (.int c1), .val (.int c2), .val (.int c3), .val (.int c4), .val (.int c5), .val (.ref b1), .val (.ref b2)] [(.int (2 : Int32)), (.ref b2)])) _
    refine XS.iconst X60.here hx rfl (hb hby at_92) ?_
    show Steps p.tables e below (T60.setTop (mkF m 93 #[.val (.int c0), .val (.int c1), .val (.int c2), .val (.int c3), .val (.int c4), .val (.int c5), .val (.ref b1), .val (.ref b2)] [(.int (0 : Int32)), (.int (2 : Int32)), (.ref b2)])) _
    exact k
  obtain ⟨cq65, kq65, q65a, q65b, q65c⟩ := isOf hZ heq60 E51_1
  obtain ⟨_, _, ⟨T65, L65, k65, n65⟩, -, X65, ⟨Lc65, hQ65, l65, y65, z65⟩, st65⟩ := X60.virtualBack hx (y := (⟨"com/example/facetwork/facetwork/image/RgbaImage", "argb", "(II)I"⟩ : MethodName)) (z := (⟨"com/example/facetwork/facetwork/image/RgbaImage", "argb", "(II)I"⟩ : MethodName)) hown (mvT hZ (hw _ (List.mem_of_getElem? (i := 30) rfl))) (mvT hZ (hw _ (List.mem_of_getElem? (i := 31) rfl))) (notFace_of_selects (args := #[]) (mvT hZ (hw _ (List.mem_of_getElem? (i := 33) rfl)))) (mvT hZ (hw _ (List.mem_of_getElem? (i := 33) rfl))) (mvT hZ (hw _ (List.mem_of_getElem? (i := 32) rfl))) (by decide) (backOf (W := 0) (rm4 l Z a0 hw [] b2 (2 : Int32) (0 : Int32) (3 : Int32) (2 : Int32) pa cA3 [(.int (nar .byte ((c0 >>> ((16 : Int32) &&& 31)).toInt8.toInt32))), (.int (nar .byte ((c0 >>> ((8 : Int32) &&& 31)).toInt8.toInt32))), (.int (nar .byte (c0.toInt8.toInt32))), (.int (nar .byte ((XT.ushr c0 (24 : Int32)).toInt8.toInt32))), (.int (nar .byte ((c1 >>> ((16 : Int32) &&& 31)).toInt8.toInt32))), (.int (nar .byte ((c1 >>> ((8 : Int32) &&& 31)).toInt8.toInt32))), (.int (nar .byte (c1.toInt8.toInt32))), (.int (nar .byte ((XT.ushr c1 (24 : Int32)).toInt8.toInt32))), (.int (nar .byte ((c2 >>> ((16 : Int32) &&& 31)).toInt8.toInt32))), (.int (nar .byte ((c2 >>> ((8 : Int32) &&& 31)).toInt8.toInt32))), (.int (nar .byte (c2.toInt8.toInt32))), (.int (nar .byte ((XT.ushr c2 (24 : Int32)).toInt8.toInt32))), (.int (nar .byte ((c3 >>> ((16 : Int32) &&& 31)).toInt8.toInt32))), (.int (nar .byte ((c3 >>> ((8 : Int32) &&& 31)).toInt8.toInt32))), (.int (nar .byte (c3.toInt8.toInt32))), (.int (nar .byte ((XT.ushr c3 (24 : Int32)).toInt8.toInt32))), (.int (nar .byte ((c4 >>> ((16 : Int32) &&& 31)).toInt8.toInt32))), (.int (nar .byte ((c4 >>> ((8 : Int32) &&& 31)).toInt8.toInt32))), (.int (nar .byte (c4.toInt8.toInt32))), (.int (nar .byte ((XT.ushr c4 (24 : Int32)).toInt8.toInt32))), (.int (nar .byte ((c5 >>> ((16 : Int32) &&& 31)).toInt8.toInt32))), (.int (nar .byte ((c5 >>> ((8 : Int32) &&& 31)).toInt8.toInt32))), (.int (nar .byte (c5.toInt8.toInt32))), (.int (nar .byte ((XT.ushr c5 (24 : Int32)).toInt8.toInt32)))] (nar .byte ((XT.ushr c2 (24 : Int32)).toInt8.toInt32)) (nar .byte ((c2 >>> ((16 : Int32) &&& 31)).toInt8.toInt32)) (nar .byte ((c2 >>> ((8 : Int32) &&& 31)).toInt8.toInt32)) (nar .byte (c2.toInt8.toInt32)) h49 n0 Z51 Fa49 Fb49 Fc49 Vq49 (by decide) (by decide) (by decide) (by decide) (by decide) (by decide) (by decide) (by decide) rfl rfl rfl rfl) hZ (hw _ (List.mem_of_getElem? (i := 34) rfl)) (hw _ (List.mem_of_getElem? (i := 7) rfl)) (by decide) (by decide)) q65a q65c (g := (mkF m 93 #[.val (.int c0), .val (.int c1), .val (.int c2), .val (.int c3), .val (.int c4), .val (.int c5), .val (.ref b1), .val (.ref b2)] [(.int (0 : Int32)), (.int (2 : Int32)), (.ref b2)])) rfl (by rw [hml]; rfl) (Steps.refl _) (argsL := [(.int (2 : Int32)), (.int (0 : Int32))]) (rest := []) (lenOf pd_argb rfl) rfl (by show 2 * 0 + _ ≤ _; exact Nat.le_of_eq rfl) (hb hby at_93) (fun _ _ => ⟨rfl, heq60, (by decide : 3 + 0 ≤ _), (by decide : 51 + 0 ≤ _)⟩)
  dsimp only [Pt.U, Pt.locs, Pt.cells, Pt.slots] at X65 l65 y65 z65 st65 hQ65
  subst l65 y65 z65
  obtain ⟨rfl, Nq65, heq65⟩ := hQ65
  have N65 := Fr.app N60 Nq65
  have pre66 : ∀ t, Steps p.tables e below (T65.setTop (mkF m 96 #[.val (.int c0), .val (.int c1), .val (.int c2), .val (.int c3), .val (.int c4), .val (.int c5), .val (.ref b1), .val (.ref b2)] [(.int (own_px (nar .byte ((XT.ushr c2 (24 : Int32)).toInt8.toInt32)) (nar .byte ((c2 >>> ((16 : Int32) &&& 31)).toInt8.toInt32)) (nar .byte ((c2 >>> ((8 : Int32) &&& 31)).toInt8.toInt32)) (nar .byte (c2.toInt8.toInt32))))])) t → Steps p.tables e below (s₁.setTop (entryFrame m #[(.int c0), (.int c1), (.int c2), (.int c3), (.int c4), (.int c5)] maxLocals)) t := fun t k => pre63 t (st65.trans k)
  have pre68 : ∀ t, Steps p.tables e below (T65.setTop (mkF m 104 #[.val (.int c0), .val (.int c1), .val (.int c2), .val (.int c3), .val (.int c4), .val (.int c5), .val (.ref b1), .val (.ref b2)] [(.int (1 : Int32)), (.int (0 : Int32)), (.ref b2)])) t → Steps p.tables e below (s₁.setTop (entryFrame m #[(.int c0), (.int c1), (.int c2), (.int c3), (.int c4), (.int c5)] maxLocals)) t := by
    intro t k
    refine pre66 t ?_
    refine XS.iloadN X65.here hx rfl (hb hby at_96) rfl ?_
    show Steps p.tables e below (T65.setTop (mkF m 97 #[.val (.int c0), .val (.int c1), .val (.int c2), .val (.int c3), .val (.int c4), .val (.int c5), .val (.ref b1), .val (.ref b2)] [(.int c2), (.int (own_px (nar .byte ((XT.ushr c2 (24 : Int32)).toInt8.toInt32)) (nar .byte ((c2 >>> ((16 : Int32) &&& 31)).toInt8.toInt32)) (nar .byte ((c2 >>> ((8 : Int32) &&& 31)).toInt8.toInt32)) (nar .byte (c2.toInt8.toInt32))))])) _
    refine XS.icmpNo X65.here hx rfl (hb hby at_97) rfl (XT.ii_ne_f (own_back c2)) ?_
    show Steps p.tables e below (T65.setTop (mkF m 100 #[.val (.int c0), .val (.int c1), .val (.int c2), .val (.int c3), .val (.int c4), .val (.int c5), .val (.ref b1), .val (.ref b2)] [])) _
    refine XS.aload X65.here hx rfl (hb hby at_100) rfl rfl ?_
    show Steps p.tables e below (T65.setTop (mkF m 102 #[.val (.int c0), .val (.int c1), .val (.int c2), .val (.int c3), .val (.int c4), .val (.int c5), .val (.ref b1), .val (.ref b2)] [(.ref b2)])) _
    refine XS.iconst X65.here hx rfl (hb hby at_102) ?_
    show Steps p.tables e below (T65.setTop (mkF m 103 #[.val (.int c0), .val (.int c1), .val (.int c2), .val (.int c3), .val (.int c4), .val (.int c5), .val (.ref b1), .val (.ref b2)] [(.int (0 : Int32)), (.ref b2)])) _
    refine XS.iconst X65.here hx rfl (hb hby at_103) ?_
    show Steps p.tables e below (T65.setTop (mkF m 104 #[.val (.int c0), .val (.int c1), .val (.int c2), .val (.int c3), .val (.int c4), .val (.int c5), .val (.ref b1), .val (.ref b2)] [(.int (1 : Int32)), (.int (0 : Int32)), (.ref b2)])) _
    exact k
  obtain ⟨cq70, kq70, q70a, q70b, q70c⟩ := isOf hZ heq65 E51_1
  obtain ⟨_, _, ⟨T70, L70, k70, n70⟩, -, X70, ⟨Lc70, hQ70, l70, y70, z70⟩, st70⟩ := X65.virtualBack hx (y := (⟨"com/example/facetwork/facetwork/image/RgbaImage", "argb", "(II)I"⟩ : MethodName)) (z := (⟨"com/example/facetwork/facetwork/image/RgbaImage", "argb", "(II)I"⟩ : MethodName)) hown (mvT hZ (hw _ (List.mem_of_getElem? (i := 30) rfl))) (mvT hZ (hw _ (List.mem_of_getElem? (i := 31) rfl))) (notFace_of_selects (args := #[]) (mvT hZ (hw _ (List.mem_of_getElem? (i := 33) rfl)))) (mvT hZ (hw _ (List.mem_of_getElem? (i := 33) rfl))) (mvT hZ (hw _ (List.mem_of_getElem? (i := 32) rfl))) (by decide) (backOf (W := 0) (rm4 l Z a0 hw [] b2 (0 : Int32) (1 : Int32) (3 : Int32) (2 : Int32) pa cA3 [(.int (nar .byte ((c0 >>> ((16 : Int32) &&& 31)).toInt8.toInt32))), (.int (nar .byte ((c0 >>> ((8 : Int32) &&& 31)).toInt8.toInt32))), (.int (nar .byte (c0.toInt8.toInt32))), (.int (nar .byte ((XT.ushr c0 (24 : Int32)).toInt8.toInt32))), (.int (nar .byte ((c1 >>> ((16 : Int32) &&& 31)).toInt8.toInt32))), (.int (nar .byte ((c1 >>> ((8 : Int32) &&& 31)).toInt8.toInt32))), (.int (nar .byte (c1.toInt8.toInt32))), (.int (nar .byte ((XT.ushr c1 (24 : Int32)).toInt8.toInt32))), (.int (nar .byte ((c2 >>> ((16 : Int32) &&& 31)).toInt8.toInt32))), (.int (nar .byte ((c2 >>> ((8 : Int32) &&& 31)).toInt8.toInt32))), (.int (nar .byte (c2.toInt8.toInt32))), (.int (nar .byte ((XT.ushr c2 (24 : Int32)).toInt8.toInt32))), (.int (nar .byte ((c3 >>> ((16 : Int32) &&& 31)).toInt8.toInt32))), (.int (nar .byte ((c3 >>> ((8 : Int32) &&& 31)).toInt8.toInt32))), (.int (nar .byte (c3.toInt8.toInt32))), (.int (nar .byte ((XT.ushr c3 (24 : Int32)).toInt8.toInt32))), (.int (nar .byte ((c4 >>> ((16 : Int32) &&& 31)).toInt8.toInt32))), (.int (nar .byte ((c4 >>> ((8 : Int32) &&& 31)).toInt8.toInt32))), (.int (nar .byte (c4.toInt8.toInt32))), (.int (nar .byte ((XT.ushr c4 (24 : Int32)).toInt8.toInt32))), (.int (nar .byte ((c5 >>> ((16 : Int32) &&& 31)).toInt8.toInt32))), (.int (nar .byte ((c5 >>> ((8 : Int32) &&& 31)).toInt8.toInt32))), (.int (nar .byte (c5.toInt8.toInt32))), (.int (nar .byte ((XT.ushr c5 (24 : Int32)).toInt8.toInt32)))] (nar .byte ((XT.ushr c3 (24 : Int32)).toInt8.toInt32)) (nar .byte ((c3 >>> ((16 : Int32) &&& 31)).toInt8.toInt32)) (nar .byte ((c3 >>> ((8 : Int32) &&& 31)).toInt8.toInt32)) (nar .byte (c3.toInt8.toInt32)) h49 n0 Z51 Fa49 Fb49 Fc49 Vq49 (by decide) (by decide) (by decide) (by decide) (by decide) (by decide) (by decide) (by decide) rfl rfl rfl rfl) hZ (hw _ (List.mem_of_getElem? (i := 34) rfl)) (hw _ (List.mem_of_getElem? (i := 7) rfl)) (by decide) (by decide)) q70a q70c (g := (mkF m 104 #[.val (.int c0), .val (.int c1), .val (.int c2), .val (.int c3), .val (.int c4), .val (.int c5), .val (.ref b1), .val (.ref b2)] [(.int (1 : Int32)), (.int (0 : Int32)), (.ref b2)])) rfl (by rw [hml]; rfl) (Steps.refl _) (argsL := [(.int (0 : Int32)), (.int (1 : Int32))]) (rest := []) (lenOf pd_argb rfl) rfl (by show 2 * 0 + _ ≤ _; exact Nat.le_of_eq rfl) (hb hby at_104) (fun _ _ => ⟨rfl, heq65, (by decide : 3 + 0 ≤ _), (by decide : 51 + 0 ≤ _)⟩)
  dsimp only [Pt.U, Pt.locs, Pt.cells, Pt.slots] at X70 l70 y70 z70 st70 hQ70
  subst l70 y70 z70
  obtain ⟨rfl, Nq70, heq70⟩ := hQ70
  have N70 := Fr.app N65 Nq70
  have pre71 : ∀ t, Steps p.tables e below (T70.setTop (mkF m 107 #[.val (.int c0), .val (.int c1), .val (.int c2), .val (.int c3), .val (.int c4), .val (.int c5), .val (.ref b1), .val (.ref b2)] [(.int (own_px (nar .byte ((XT.ushr c3 (24 : Int32)).toInt8.toInt32)) (nar .byte ((c3 >>> ((16 : Int32) &&& 31)).toInt8.toInt32)) (nar .byte ((c3 >>> ((8 : Int32) &&& 31)).toInt8.toInt32)) (nar .byte (c3.toInt8.toInt32))))])) t → Steps p.tables e below (s₁.setTop (entryFrame m #[(.int c0), (.int c1), (.int c2), (.int c3), (.int c4), (.int c5)] maxLocals)) t := fun t k => pre68 t (st70.trans k)
  have pre73 : ∀ t, Steps p.tables e below (T70.setTop (mkF m 115 #[.val (.int c0), .val (.int c1), .val (.int c2), .val (.int c3), .val (.int c4), .val (.int c5), .val (.ref b1), .val (.ref b2)] [(.int (1 : Int32)), (.int (1 : Int32)), (.ref b2)])) t → Steps p.tables e below (s₁.setTop (entryFrame m #[(.int c0), (.int c1), (.int c2), (.int c3), (.int c4), (.int c5)] maxLocals)) t := by
    intro t k
    refine pre71 t ?_
    refine XS.iloadN X70.here hx rfl (hb hby at_107) rfl ?_
    show Steps p.tables e below (T70.setTop (mkF m 108 #[.val (.int c0), .val (.int c1), .val (.int c2), .val (.int c3), .val (.int c4), .val (.int c5), .val (.ref b1), .val (.ref b2)] [(.int c3), (.int (own_px (nar .byte ((XT.ushr c3 (24 : Int32)).toInt8.toInt32)) (nar .byte ((c3 >>> ((16 : Int32) &&& 31)).toInt8.toInt32)) (nar .byte ((c3 >>> ((8 : Int32) &&& 31)).toInt8.toInt32)) (nar .byte (c3.toInt8.toInt32))))])) _
    refine XS.icmpNo X70.here hx rfl (hb hby at_108) rfl (XT.ii_ne_f (own_back c3)) ?_
    show Steps p.tables e below (T70.setTop (mkF m 111 #[.val (.int c0), .val (.int c1), .val (.int c2), .val (.int c3), .val (.int c4), .val (.int c5), .val (.ref b1), .val (.ref b2)] [])) _
    refine XS.aload X70.here hx rfl (hb hby at_111) rfl rfl ?_
    show Steps p.tables e below (T70.setTop (mkF m 113 #[.val (.int c0), .val (.int c1), .val (.int c2), .val (.int c3), .val (.int c4), .val (.int c5), .val (.ref b1), .val (.ref b2)] [(.ref b2)])) _
    refine XS.iconst X70.here hx rfl (hb hby at_113) ?_
    show Steps p.tables e below (T70.setTop (mkF m 114 #[.val (.int c0), .val (.int c1), .val (.int c2), .val (.int c3), .val (.int c4), .val (.int c5), .val (.ref b1), .val (.ref b2)] [(.int (1 : Int32)), (.ref b2)])) _
    refine XS.iconst X70.here hx rfl (hb hby at_114) ?_
    show Steps p.tables e below (T70.setTop (mkF m 115 #[.val (.int c0), .val (.int c1), .val (.int c2), .val (.int c3), .val (.int c4), .val (.int c5), .val (.ref b1), .val (.ref b2)] [(.int (1 : Int32)), (.int (1 : Int32)), (.ref b2)])) _
    exact k
  obtain ⟨cq75, kq75, q75a, q75b, q75c⟩ := isOf hZ heq70 E51_1
  obtain ⟨_, _, ⟨T75, L75, k75, n75⟩, -, X75, ⟨Lc75, hQ75, l75, y75, z75⟩, st75⟩ := X70.virtualBack hx (y := (⟨"com/example/facetwork/facetwork/image/RgbaImage", "argb", "(II)I"⟩ : MethodName)) (z := (⟨"com/example/facetwork/facetwork/image/RgbaImage", "argb", "(II)I"⟩ : MethodName)) hown (mvT hZ (hw _ (List.mem_of_getElem? (i := 30) rfl))) (mvT hZ (hw _ (List.mem_of_getElem? (i := 31) rfl))) (notFace_of_selects (args := #[]) (mvT hZ (hw _ (List.mem_of_getElem? (i := 33) rfl)))) (mvT hZ (hw _ (List.mem_of_getElem? (i := 33) rfl))) (mvT hZ (hw _ (List.mem_of_getElem? (i := 32) rfl))) (by decide) (backOf (W := 0) (rm4 l Z a0 hw [] b2 (1 : Int32) (1 : Int32) (3 : Int32) (2 : Int32) pa cA3 [(.int (nar .byte ((c0 >>> ((16 : Int32) &&& 31)).toInt8.toInt32))), (.int (nar .byte ((c0 >>> ((8 : Int32) &&& 31)).toInt8.toInt32))), (.int (nar .byte (c0.toInt8.toInt32))), (.int (nar .byte ((XT.ushr c0 (24 : Int32)).toInt8.toInt32))), (.int (nar .byte ((c1 >>> ((16 : Int32) &&& 31)).toInt8.toInt32))), (.int (nar .byte ((c1 >>> ((8 : Int32) &&& 31)).toInt8.toInt32))), (.int (nar .byte (c1.toInt8.toInt32))), (.int (nar .byte ((XT.ushr c1 (24 : Int32)).toInt8.toInt32))), (.int (nar .byte ((c2 >>> ((16 : Int32) &&& 31)).toInt8.toInt32))), (.int (nar .byte ((c2 >>> ((8 : Int32) &&& 31)).toInt8.toInt32))), (.int (nar .byte (c2.toInt8.toInt32))), (.int (nar .byte ((XT.ushr c2 (24 : Int32)).toInt8.toInt32))), (.int (nar .byte ((c3 >>> ((16 : Int32) &&& 31)).toInt8.toInt32))), (.int (nar .byte ((c3 >>> ((8 : Int32) &&& 31)).toInt8.toInt32))), (.int (nar .byte (c3.toInt8.toInt32))), (.int (nar .byte ((XT.ushr c3 (24 : Int32)).toInt8.toInt32))), (.int (nar .byte ((c4 >>> ((16 : Int32) &&& 31)).toInt8.toInt32))), (.int (nar .byte ((c4 >>> ((8 : Int32) &&& 31)).toInt8.toInt32))), (.int (nar .byte (c4.toInt8.toInt32))), (.int (nar .byte ((XT.ushr c4 (24 : Int32)).toInt8.toInt32))), (.int (nar .byte ((c5 >>> ((16 : Int32) &&& 31)).toInt8.toInt32))), (.int (nar .byte ((c5 >>> ((8 : Int32) &&& 31)).toInt8.toInt32))), (.int (nar .byte (c5.toInt8.toInt32))), (.int (nar .byte ((XT.ushr c5 (24 : Int32)).toInt8.toInt32)))] (nar .byte ((XT.ushr c4 (24 : Int32)).toInt8.toInt32)) (nar .byte ((c4 >>> ((16 : Int32) &&& 31)).toInt8.toInt32)) (nar .byte ((c4 >>> ((8 : Int32) &&& 31)).toInt8.toInt32)) (nar .byte (c4.toInt8.toInt32)) h49 n0 Z51 Fa49 Fb49 Fc49 Vq49 (by decide) (by decide) (by decide) (by decide) (by decide) (by decide) (by decide) (by decide) rfl rfl rfl rfl) hZ (hw _ (List.mem_of_getElem? (i := 34) rfl)) (hw _ (List.mem_of_getElem? (i := 7) rfl)) (by decide) (by decide)) q75a q75c (g := (mkF m 115 #[.val (.int c0), .val (.int c1), .val (.int c2), .val (.int c3), .val (.int c4), .val (.int c5), .val (.ref b1), .val (.ref b2)] [(.int (1 : Int32)), (.int (1 : Int32)), (.ref b2)])) rfl (by rw [hml]; rfl) (Steps.refl _) (argsL := [(.int (1 : Int32)), (.int (1 : Int32))]) (rest := []) (lenOf pd_argb rfl) rfl (by show 2 * 0 + _ ≤ _; exact Nat.le_of_eq rfl) (hb hby at_115) (fun _ _ => ⟨rfl, heq70, (by decide : 3 + 0 ≤ _), (by decide : 51 + 0 ≤ _)⟩)
  dsimp only [Pt.U, Pt.locs, Pt.cells, Pt.slots] at X75 l75 y75 z75 st75 hQ75
  subst l75 y75 z75
  obtain ⟨rfl, Nq75, heq75⟩ := hQ75
  have N75 := Fr.app N70 Nq75
  have pre76 : ∀ t, Steps p.tables e below (T75.setTop (mkF m 118 #[.val (.int c0), .val (.int c1), .val (.int c2), .val (.int c3), .val (.int c4), .val (.int c5), .val (.ref b1), .val (.ref b2)] [(.int (own_px (nar .byte ((XT.ushr c4 (24 : Int32)).toInt8.toInt32)) (nar .byte ((c4 >>> ((16 : Int32) &&& 31)).toInt8.toInt32)) (nar .byte ((c4 >>> ((8 : Int32) &&& 31)).toInt8.toInt32)) (nar .byte (c4.toInt8.toInt32))))])) t → Steps p.tables e below (s₁.setTop (entryFrame m #[(.int c0), (.int c1), (.int c2), (.int c3), (.int c4), (.int c5)] maxLocals)) t := fun t k => pre73 t (st75.trans k)
  have pre78 : ∀ t, Steps p.tables e below (T75.setTop (mkF m 127 #[.val (.int c0), .val (.int c1), .val (.int c2), .val (.int c3), .val (.int c4), .val (.int c5), .val (.ref b1), .val (.ref b2)] [(.int (1 : Int32)), (.int (2 : Int32)), (.ref b2)])) t → Steps p.tables e below (s₁.setTop (entryFrame m #[(.int c0), (.int c1), (.int c2), (.int c3), (.int c4), (.int c5)] maxLocals)) t := by
    intro t k
    refine pre76 t ?_
    refine XS.iload X75.here hx rfl (hb hby at_118) rfl ?_
    show Steps p.tables e below (T75.setTop (mkF m 120 #[.val (.int c0), .val (.int c1), .val (.int c2), .val (.int c3), .val (.int c4), .val (.int c5), .val (.ref b1), .val (.ref b2)] [(.int c4), (.int (own_px (nar .byte ((XT.ushr c4 (24 : Int32)).toInt8.toInt32)) (nar .byte ((c4 >>> ((16 : Int32) &&& 31)).toInt8.toInt32)) (nar .byte ((c4 >>> ((8 : Int32) &&& 31)).toInt8.toInt32)) (nar .byte (c4.toInt8.toInt32))))])) _
    refine XS.icmpNo X75.here hx rfl (hb hby at_120) rfl (XT.ii_ne_f (own_back c4)) ?_
    show Steps p.tables e below (T75.setTop (mkF m 123 #[.val (.int c0), .val (.int c1), .val (.int c2), .val (.int c3), .val (.int c4), .val (.int c5), .val (.ref b1), .val (.ref b2)] [])) _
    refine XS.aload X75.here hx rfl (hb hby at_123) rfl rfl ?_
    show Steps p.tables e below (T75.setTop (mkF m 125 #[.val (.int c0), .val (.int c1), .val (.int c2), .val (.int c3), .val (.int c4), .val (.int c5), .val (.ref b1), .val (.ref b2)] [(.ref b2)])) _
    refine XS.iconst X75.here hx rfl (hb hby at_125) ?_
    show Steps p.tables e below (T75.setTop (mkF m 126 #[.val (.int c0), .val (.int c1), .val (.int c2), .val (.int c3), .val (.int c4), .val (.int c5), .val (.ref b1), .val (.ref b2)] [(.int (2 : Int32)), (.ref b2)])) _
    refine XS.iconst X75.here hx rfl (hb hby at_126) ?_
    show Steps p.tables e below (T75.setTop (mkF m 127 #[.val (.int c0), .val (.int c1), .val (.int c2), .val (.int c3), .val (.int c4), .val (.int c5), .val (.ref b1), .val (.ref b2)] [(.int (1 : Int32)), (.int (2 : Int32)), (.ref b2)])) _
    exact k
  obtain ⟨cq80, kq80, q80a, q80b, q80c⟩ := isOf hZ heq75 E51_1
  obtain ⟨_, _, ⟨T80, L80, k80, n80⟩, -, X80, ⟨Lc80, hQ80, l80, y80, z80⟩, st80⟩ := X75.virtualBack hx (y := (⟨"com/example/facetwork/facetwork/image/RgbaImage", "argb", "(II)I"⟩ : MethodName)) (z := (⟨"com/example/facetwork/facetwork/image/RgbaImage", "argb", "(II)I"⟩ : MethodName)) hown (mvT hZ (hw _ (List.mem_of_getElem? (i := 30) rfl))) (mvT hZ (hw _ (List.mem_of_getElem? (i := 31) rfl))) (notFace_of_selects (args := #[]) (mvT hZ (hw _ (List.mem_of_getElem? (i := 33) rfl)))) (mvT hZ (hw _ (List.mem_of_getElem? (i := 33) rfl))) (mvT hZ (hw _ (List.mem_of_getElem? (i := 32) rfl))) (by decide) (backOf (W := 0) (rm4 l Z a0 hw [] b2 (2 : Int32) (1 : Int32) (3 : Int32) (2 : Int32) pa cA3 [(.int (nar .byte ((c0 >>> ((16 : Int32) &&& 31)).toInt8.toInt32))), (.int (nar .byte ((c0 >>> ((8 : Int32) &&& 31)).toInt8.toInt32))), (.int (nar .byte (c0.toInt8.toInt32))), (.int (nar .byte ((XT.ushr c0 (24 : Int32)).toInt8.toInt32))), (.int (nar .byte ((c1 >>> ((16 : Int32) &&& 31)).toInt8.toInt32))), (.int (nar .byte ((c1 >>> ((8 : Int32) &&& 31)).toInt8.toInt32))), (.int (nar .byte (c1.toInt8.toInt32))), (.int (nar .byte ((XT.ushr c1 (24 : Int32)).toInt8.toInt32))), (.int (nar .byte ((c2 >>> ((16 : Int32) &&& 31)).toInt8.toInt32))), (.int (nar .byte ((c2 >>> ((8 : Int32) &&& 31)).toInt8.toInt32))), (.int (nar .byte (c2.toInt8.toInt32))), (.int (nar .byte ((XT.ushr c2 (24 : Int32)).toInt8.toInt32))), (.int (nar .byte ((c3 >>> ((16 : Int32) &&& 31)).toInt8.toInt32))), (.int (nar .byte ((c3 >>> ((8 : Int32) &&& 31)).toInt8.toInt32))), (.int (nar .byte (c3.toInt8.toInt32))), (.int (nar .byte ((XT.ushr c3 (24 : Int32)).toInt8.toInt32))), (.int (nar .byte ((c4 >>> ((16 : Int32) &&& 31)).toInt8.toInt32))), (.int (nar .byte ((c4 >>> ((8 : Int32) &&& 31)).toInt8.toInt32))), (.int (nar .byte (c4.toInt8.toInt32))), (.int (nar .byte ((XT.ushr c4 (24 : Int32)).toInt8.toInt32))), (.int (nar .byte ((c5 >>> ((16 : Int32) &&& 31)).toInt8.toInt32))), (.int (nar .byte ((c5 >>> ((8 : Int32) &&& 31)).toInt8.toInt32))), (.int (nar .byte (c5.toInt8.toInt32))), (.int (nar .byte ((XT.ushr c5 (24 : Int32)).toInt8.toInt32)))] (nar .byte ((XT.ushr c5 (24 : Int32)).toInt8.toInt32)) (nar .byte ((c5 >>> ((16 : Int32) &&& 31)).toInt8.toInt32)) (nar .byte ((c5 >>> ((8 : Int32) &&& 31)).toInt8.toInt32)) (nar .byte (c5.toInt8.toInt32)) h49 n0 Z51 Fa49 Fb49 Fc49 Vq49 (by decide) (by decide) (by decide) (by decide) (by decide) (by decide) (by decide) (by decide) rfl rfl rfl rfl) hZ (hw _ (List.mem_of_getElem? (i := 34) rfl)) (hw _ (List.mem_of_getElem? (i := 7) rfl)) (by decide) (by decide)) q80a q80c (g := (mkF m 127 #[.val (.int c0), .val (.int c1), .val (.int c2), .val (.int c3), .val (.int c4), .val (.int c5), .val (.ref b1), .val (.ref b2)] [(.int (1 : Int32)), (.int (2 : Int32)), (.ref b2)])) rfl (by rw [hml]; rfl) (Steps.refl _) (argsL := [(.int (2 : Int32)), (.int (1 : Int32))]) (rest := []) (lenOf pd_argb rfl) rfl (by show 2 * 0 + _ ≤ _; exact Nat.le_of_eq rfl) (hb hby at_127) (fun _ _ => ⟨rfl, heq75, (by decide : 3 + 0 ≤ _), (by decide : 51 + 0 ≤ _)⟩)
  dsimp only [Pt.U, Pt.locs, Pt.cells, Pt.slots] at X80 l80 y80 z80 st80 hQ80
  subst l80 y80 z80
  obtain ⟨rfl, Nq80, heq80⟩ := hQ80
  have N80 := Fr.app N75 Nq80
  have pre81 : ∀ t, Steps p.tables e below (T80.setTop (mkF m 130 #[.val (.int c0), .val (.int c1), .val (.int c2), .val (.int c3), .val (.int c4), .val (.int c5), .val (.ref b1), .val (.ref b2)] [(.int (own_px (nar .byte ((XT.ushr c5 (24 : Int32)).toInt8.toInt32)) (nar .byte ((c5 >>> ((16 : Int32) &&& 31)).toInt8.toInt32)) (nar .byte ((c5 >>> ((8 : Int32) &&& 31)).toInt8.toInt32)) (nar .byte (c5.toInt8.toInt32))))])) t → Steps p.tables e below (s₁.setTop (entryFrame m #[(.int c0), (.int c1), (.int c2), (.int c3), (.int c4), (.int c5)] maxLocals)) t := fun t k => pre78 t (st80.trans k)
  have pre82 : ∀ t, Steps p.tables e below (T80.setTop (mkF m 140 #[.val (.int c0), .val (.int c1), .val (.int c2), .val (.int c3), .val (.int c4), .val (.int c5), .val (.ref b1), .val (.ref b2)] [(.int (1 : Int32))])) t → Steps p.tables e below (s₁.setTop (entryFrame m #[(.int c0), (.int c1), (.int c2), (.int c3), (.int c4), (.int c5)] maxLocals)) t := by
    intro t k
    refine pre81 t ?_
    refine XS.iload X80.here hx rfl (hb hby at_130) rfl ?_
    show Steps p.tables e below (T80.setTop (mkF m 132 #[.val (.int c0), .val (.int c1), .val (.int c2), .val (.int c3), .val (.int c4), .val (.int c5), .val (.ref b1), .val (.ref b2)] [(.int c5), (.int (own_px (nar .byte ((XT.ushr c5 (24 : Int32)).toInt8.toInt32)) (nar .byte ((c5 >>> ((16 : Int32) &&& 31)).toInt8.toInt32)) (nar .byte ((c5 >>> ((8 : Int32) &&& 31)).toInt8.toInt32)) (nar .byte (c5.toInt8.toInt32))))])) _
    refine XS.icmpNo X80.here hx rfl (hb hby at_132) rfl (XT.ii_ne_f (own_back c5)) ?_
    show Steps p.tables e below (T80.setTop (mkF m 135 #[.val (.int c0), .val (.int c1), .val (.int c2), .val (.int c3), .val (.int c4), .val (.int c5), .val (.ref b1), .val (.ref b2)] [])) _
    refine XS.iconst X80.here hx rfl (hb hby at_135) ?_
    show Steps p.tables e below (T80.setTop (mkF m 136 #[.val (.int c0), .val (.int c1), .val (.int c2), .val (.int c3), .val (.int c4), .val (.int c5), .val (.ref b1), .val (.ref b2)] [(.int (1 : Int32))])) _
    refine XS.goto X80.here hx rfl (pc0 := 136) (pc' := 140) rfl (hb hby at_136) (by decide) (by decide) ?_
    show Steps p.tables e below (T80.setTop (mkF m 140 #[.val (.int c0), .val (.int c1), .val (.int c2), .val (.int c3), .val (.int c4), .val (.int c5), .val (.ref b1), .val (.ref b2)] [(.int (1 : Int32))])) _
    exact k
  obtain ⟨fs, hr, hrun, hended, hW, hsame⟩ := X80.leave (v := some (.int (1 : Int32))) (fun h => by rw [Bd.returns] at h; cases h)
  refine ⟨_, _, pre82 _ ?_, hrun, hended, _, _, rfl, ?_, ⟨_, rfl⟩, hW, hsame.mono (by decide) (by decide)⟩
  · exact retOut X80 hx Bd.returns rfl (Or.inl ⟨rfl, by simp, _, rfl⟩) (hb hby at_140) hr
  · show Qlaw Z c0 c1 c2 c3 c4 c5 h0 n0 _ T80.heap _
    rw [heq80]
    exact ⟨rfl, N80⟩
set_option maxRecDepth 65536 in
set_option maxHeartbeats 40000000 in
theorem comes_1 {Post : Tables → Env → Array Value → State → Outcome → State → Prop} (hpost : ∀ tb e args s v u, (limb_1_1.after args s (.returned v) u = true ∧ limb_1_2.after args s (.returned v) u = true ∧ True) → FrameEnd s (.returned v) u (Jvm.fieldLocs frame_1_writes args s ++ Jvm.arrayLocs frame_1_arrays args s ++ Jvm.staticLocs frame_1_statics s) 16 192 → Post tb e args s (.returned v) u) :
    ArmFor flags0 classFile x code maxLocals ret World_1 tables_1 room_1 Calls_1 rest_1 Pre_1 Post := by
  intro l hfl _ _ p e ha hc hk s m args below hf hA hF happ hP
  obtain ⟨hcalls, hrest, hpre⟩ := hP
  obtain ⟨-, -, -, hnamed, -, -, -, hat⟩ := (Spec.applies_iff hf).mp happ
  obtain ⟨hg, hn⟩ := and_e (Cond.before_iff.mp (show (Jvm.Cond.and given_1 narrow_1).before args s = true from hpre))
  obtain ⟨gc, g0⟩ := and_e hg
  obtain ⟨w0, w1, w2, w3, w4, w5, rfl⟩ : ∃ w0 w1 w2 w3 w4 w5 : Value, args = #[w0, w1, w2, w3, w4, w5] := by
    have hs : args.size = 6 := by simpa [Cond.value, given_1] using gc
    obtain ⟨L⟩ := args
    match L, hs with
    | [w0, w1, w2, w3, w4, w5], _ => exact ⟨w0, w1, w2, w3, w4, w5, rfl⟩
  have hw := fun d (hd : d ∈ tables_1) => atoms_spec (ws := Jvm.Cond.code x code maxLocals ret :: tables_1) hat d (List.mem_cons_of_mem _ hd)
  have hfit : Fit s := fun {y c} hc i hi => by
    obtain ⟨ha, rfl⟩ := Array.getElem?_eq_some_iff.mp hc
    have q := List.all_eq_true.mp ((Array.all_eq_true_iff_forall_mem.mp hF) _ (Array.getElem_mem ha)) i (List.mem_range.mpr hi)
    simpa [Array.getElem?_eq_getElem hi] using q
  obtain ⟨ga0, gb0⟩ := and_e g0
  obtain ⟨i0, ei0⟩ := is_v ga0
  obtain rfl : w0 = (.int i0) := Option.some.inj ei0
  obtain ⟨ga1, gb1⟩ := and_e gb0
  obtain ⟨i1, ei1⟩ := is_v ga1
  obtain rfl : w1 = (.int i1) := Option.some.inj ei1
  obtain ⟨ga2, gb2⟩ := and_e gb1
  obtain ⟨i2, ei2⟩ := is_v ga2
  obtain rfl : w2 = (.int i2) := Option.some.inj ei2
  obtain ⟨ga3, gb3⟩ := and_e gb2
  obtain ⟨i3, ei3⟩ := is_v ga3
  obtain rfl : w3 = (.int i3) := Option.some.inj ei3
  obtain ⟨ga4, gb4⟩ := and_e gb3
  obtain ⟨i4, ei4⟩ := is_v ga4
  obtain rfl : w4 = (.int i4) := Option.some.inj ei4
  obtain ⟨i5, ei5⟩ := is_v gb4
  obtain rfl : w5 = (.int i5) := Option.some.inj ei5
  obtain ⟨n, o, h1, h2, h3, _, L, rfl, ⟨rfl, N⟩, hq⟩ := rmlaw l s _ hw tables_1 i0 i1 i2 i3 i4 i5 s.heap s.heap.size (Nat.le_refl _)  p e ha hc hk s m _ below hf ((Spec.applies_iff_loose hf).mp happ).1 ⟨rfl, State.Warmed39.refl s, rfl⟩ trivial
  refine ⟨n, _, h1, h2, h3, hpost _ _ _ _ _ _ ⟨Cond.after_iff.mpr rfl, Cond.after_iff.mpr (eq_i res_at (Term.int_eval (1)) rfl), trivial⟩ ⟨hq.1, hq.2.1, (hq.2.2.sift fun y hy => Or.inr (N y hy)).mono (by decide) (by decide)⟩⟩
theorem main_1_1 : Claimed_1_1 := comes_1 fun _ _ _ _ _ _ h hF => ⟨h.1, hF⟩
theorem main_1_2 : Claimed_1_2 := comes_1 fun _ _ _ _ _ _ h hF => ⟨h.2.1, hF⟩
end Jvm.Pilot.@@N@@
namespace Jvm.Pilot.@@N@@
open Jvm Jvm.ClassFile Sem Op Lib Jvm.Free Jvm.Stand Jvm.Pilot.@@N@@.Jvm.D
/-! MADE BY PROGRAM (witnessworld.py) out of the Statement's table words and the real class files: 9 classes; the members and pool entries that the words name. The judged class is class 1, her method 1. -/
namespace start1
open Jvm.ClassFile
def u (s : String) : CpInfo := .utf8 (stringToUtf16 s)
/-- a pool by its gaps: so many unusable entries, then the entry; so many at the end -/
def gap : Nat → List CpInfo → List CpInfo
  | 0, r => r
  | n + 1, r => .unusable :: gap n r
def poolList (es : List (Nat × CpInfo)) (last : Nat) : List CpInfo := es.foldr (fun e r => gap e.1 (e.2 :: r)) (gap last [])
def pool (es : List (Nat × CpInfo)) (last : Nat) : Array CpInfo := ⟨poolList es last⟩
def fileOf (pool : Array CpInfo) (this : Nat) (attrs : Array Attribute := #[]) (ms : Array MethodInfo := #[]) (fl : Nat := 33) (sup : Nat := 0) (ifs : Array Nat := #[]) (fds : Array FieldInfo := #[]) : ClassFile where
  minorVersion := 0
  majorVersion := 65
  constantPool := pool
  accessFlags := fl
  thisClass := this
  superClass := sup
  interfaces := ifs
  fields := fds
  methods := ms
  attributes := attrs
def plain (name : String) (sup : Option ClassId) : Class where
  name := name
  kind := .ordinary
  loader := none
  accessFlags := 33
  super := sup
  interfaces := #[]
  cf := none
  fields := #[]
  methods := #[]
  instanceTypes := #[]
  staticTypes := #[]
  resolved := #[]
  callSites := []
  init := .initialized
  statics := none
  mirror := none

def pool0 : Array CpInfo := pool [(5, u "<init>"), (0, u "()V"), (1, .class_ 10), (1, u "java/lang/Object"), (85, u "clone"), (0, u "()Ljava/lang/Object;")] 26

def k0c0 : Code := { maxStack := 0, maxLocals := 1, code := object_method_1_code, exceptionTable := #[], attributes := #[] }
def k0m0 : Method := { name := "<init>", desc := "()V", sig := { parameters := [], returnType := none }, accessFlags := 1, code := some k0c0 }
def k0m1 : Method := { name := "clone", desc := "()Ljava/lang/Object;", sig := { parameters := [], returnType := some (.object "java/lang/Object") }, accessFlags := 260, code := none }
/-- java/lang/Object -/
def k0 : Class := { plain "java/lang/Object" none with
  accessFlags := 33
  interfaces := #[]
  cf := some (fileOf pool0 8 #[] #[{ accessFlags := 1, nameIndex := 5, descriptorIndex := 6, attributes := #[] }, { accessFlags := 260, nameIndex := 96, descriptorIndex := 97, attributes := #[] }] 33 0 #[] #[])
  fields := #[]
  methods := #[k0m0, k0m1]
  instanceTypes := #[]
  staticTypes := #[]
  resolved := Array.replicate 124 none
  statics := none }

def pool1 : Array CpInfo := pool [(2, .class_ 4), (1, u "java/lang/Object"), (0, u "<init>"), (0, u "()V"), (0, .methodref 8 9), (0, .class_ 10), (0, .nameAndType 11 12), (0, u "com/example/facetwork/facetwork/image/RgbaImageArgbPinLaw"), (0, u "put"), (0, u "([BII)V"), (0, .class_ 14), (0, u "com/example/facetwork/facetwork/image/RgbaImage"), (0, .methodref 13 16), (0, .nameAndType 5 17), (0, u "(II[B)V"), (0, .methodref 13 19), (0, .nameAndType 20 21), (0, u "argb"), (0, u "(II)I"), (2, u "law"), (0, u "(IIIIII)Z")] 5

def k1m0 : Method := { name := "<init>", desc := "()V", sig := { parameters := [], returnType := none }, accessFlags := 2, code := none }
def k1c1 : Code := { maxStack := 5, maxLocals := 8, code := code, exceptionTable := #[], attributes := #[] }
def k1m1 : Method := { name := "law", desc := "(IIIIII)Z", sig := { parameters := [.int, .int, .int, .int, .int, .int], returnType := some .boolean }, accessFlags := 9, code := some k1c1 }
def k1c2 : Code := { maxStack := 4, maxLocals := 3, code := method_3_code, exceptionTable := #[], attributes := #[] }
def k1m2 : Method := { name := "put", desc := "([BII)V", sig := { parameters := [(.array .byte), .int, .int], returnType := none }, accessFlags := 10, code := some k1c2 }
/-- com/example/facetwork/facetwork/image/RgbaImageArgbPinLaw -/
def k1 : Class := { plain "com/example/facetwork/facetwork/image/RgbaImageArgbPinLaw" (some 0) with
  accessFlags := 49
  interfaces := #[]
  cf := some (fileOf pool1 8 #[] #[{ accessFlags := 2, nameIndex := 5, descriptorIndex := 6, attributes := #[] }, { accessFlags := 9, nameIndex := 24, descriptorIndex := 25, attributes := #[] }, { accessFlags := 10, nameIndex := 11, descriptorIndex := 12, attributes := #[] }] 49 2 #[] #[])
  fields := #[]
  methods := #[k1m0, k1m1, k1m2]
  instanceTypes := #[]
  staticTypes := #[]
  resolved := Array.replicate 31 none
  statics := none }

def pool2 : Array CpInfo := pool [(1, .methodref 2 3), (0, .class_ 4), (0, .nameAndType 5 6), (0, u "java/lang/Object"), (0, u "<init>"), (0, u "()V"), (9, .long 4), (4, .fieldref 22 23), (0, .class_ 24), (0, .nameAndType 25 26), (0, u "com/example/facetwork/facetwork/image/RgbaImage"), (0, u "width"), (0, u "I"), (0, .fieldref 22 28), (0, .nameAndType 29 26), (0, u "height"), (0, .methodref 31 32), (0, .class_ 33), (0, .nameAndType 34 35), (0, u "[B"), (0, u "clone"), (0, u "()Ljava/lang/Object;"), (0, .fieldref 22 37), (0, .nameAndType 38 33), (0, u "pixels"), (11, u "(II[B)V"), (13, u "argb"), (0, u "(II)I")] 23

def k2c0 : Code := { maxStack := 8, maxLocals := 4, code := prog_4_method_1_code, exceptionTable := #[], attributes := #[] }
def k2m0 : Method := { name := "<init>", desc := "(II[B)V", sig := { parameters := [.int, .int, (.array .byte)], returnType := none }, accessFlags := 1, code := some k2c0 }
def k2c1 : Code := { maxStack := 6, maxLocals := 4, code := prog_4_method_6_code, exceptionTable := #[], attributes := #[] }
def k2m1 : Method := { name := "argb", desc := "(II)I", sig := { parameters := [.int, .int], returnType := some .int }, accessFlags := 1, code := some k2c1 }
/-- com/example/facetwork/facetwork/image/RgbaImage -/
def k2 : Class := { plain "com/example/facetwork/facetwork/image/RgbaImage" (some 0) with
  accessFlags := 49
  interfaces := #[]
  cf := some (fileOf pool2 22 #[] #[{ accessFlags := 1, nameIndex := 5, descriptorIndex := 50, attributes := #[] }, { accessFlags := 1, nameIndex := 64, descriptorIndex := 65, attributes := #[] }] 49 2 #[] #[{ accessFlags := 18, nameIndex := 25, descriptorIndex := 26, attributes := #[] }, { accessFlags := 18, nameIndex := 29, descriptorIndex := 26, attributes := #[] }, { accessFlags := 18, nameIndex := 38, descriptorIndex := 33, attributes := #[] }])
  fields := #[{ name := "width", type := .int, accessFlags := 18, slot := 0, constantValue := 0 }, { name := "height", type := .int, accessFlags := 18, slot := 1, constantValue := 0 }, { name := "pixels", type := (.array .byte), accessFlags := 18, slot := 2, constantValue := 0 }]
  methods := #[k2m0, k2m1]
  instanceTypes := #[.int, .int, (.array .byte)]
  staticTypes := #[]
  resolved := Array.replicate 89 none
  statics := none }

def pool3 : Array CpInfo := pool [(1, .class_ 2), (0, u "java/lang/Cloneable"), (0, .class_ 4), (0, u "java/lang/Object")] 2

/-- java/lang/Cloneable -/
def k3 : Class := { plain "java/lang/Cloneable" (some 0) with
  accessFlags := 1537
  interfaces := #[]
  cf := some (fileOf pool3 1 #[] #[] 1537 3 #[] #[])
  fields := #[]
  methods := #[]
  instanceTypes := #[]
  staticTypes := #[]
  resolved := Array.replicate 7 none
  statics := none }

def pool4 : Array CpInfo := pool [(1, u "java/io/Serializable"), (0, .class_ 1), (0, u "java/lang/Object"), (0, .class_ 3)] 3

/-- java/io/Serializable -/
def k4 : Class := { plain "java/io/Serializable" (some 0) with
  accessFlags := 1537
  interfaces := #[]
  cf := some (fileOf pool4 2 #[] #[] 1537 4 #[] #[])
  fields := #[]
  methods := #[]
  instanceTypes := #[]
  staticTypes := #[]
  resolved := Array.replicate 8 none
  statics := none }

/-- the primitive byte -/
def k5 : Class := { plain "byte" none with kind := .primitive 'B', accessFlags := 0x411 }
/-- [B -/
def k6 : Class := { plain "[B" (some 0) with kind := .array 5 .byte, interfaces := #[3, 4], accessFlags := 1041 }

/-- the primitive int -/
def k7 : Class := { plain "int" none with kind := .primitive 'I', accessFlags := 0x411 }
/-- [I -/
def k8 : Class := { plain "[I" (some 0) with kind := .array 7 .int, interfaces := #[3, 4], accessFlags := 1041 }

def heap : Heap := #[]
def classes : Array Class := #[k0, k1, k2, k3, k4, k5, k6, k7, k8]
def interned : List (Array UInt16 × Addr) := []
def slotsUsed : Nat := 0
def theMethod : MethodId := ⟨1, 1⟩
def args0 : Array Value := #[.int 1, .int 2, .int 3, .int 4, .int 5, .int 6]
def aboutOver (below : List Frame) : State where
  vm := { classes := classes, interned := interned.toArray }
  heap := heap
  slotsUsed := slotsUsed
  threads := #[{ frames := .invoking theMethod args0 :: below }]
def below0 : List Frame := [.native { method := ⟨0, 0⟩, args := #[] }]
def about1 : State := aboutOver below0
def p0 : Program := .bare "" "" ""
def e0 : Env := launch0.env 0 0 0
theorem w_frames : about1.frames = Frame.invoking theMethod args0 :: below0 := rfl
set_option maxRecDepth 65536 in
theorem w_args : argsFit about1.vm theMethod args0 = true := by decide +kernel
set_option maxRecDepth 65536 in
theorem w_heap : heapFits about1 = true := by decide +kernel
set_option maxRecDepth 65536 in
theorem w_runnable : about1.curStatus? = some .runnable := by decide +kernel
set_option maxRecDepth 65536 in
theorem w_alone : about1.alone = true := by decide +kernel
set_option maxRecDepth 65536 in
theorem w_named : about1.methodNamed? x = some theMethod := by decide +kernel
set_option maxRecDepth 65536 in
theorem w_hears : about1.hears theMethod below0 = true := by decide +kernel
set_option maxRecDepth 65536 in
theorem w_ripe : about1.ripe theMethod args0 below0 = true := by decide +kernel
theorem w_running : about1.status = .running := rfl
set_option maxRecDepth 65536 in
theorem w_room : about1.hasRoom e0.platform room_1 = true :=
  launch0.hasRoom_least _ room_1 (by decide +kernel) (by decide +kernel) (by decide +kernel) (by decide +kernel) (by decide +kernel) (by decide +kernel)
theorem allAtoms_all (ts : List Jvm.Cond) (a : Array Jvm.Value) (st : Jvm.State) : (allAtoms ts).before a st = ts.all (fun c => c.before a st) := by
  induction ts with
  | nil => rfl
  | cons c t ih =>
    show (Jvm.Cond.and c (allAtoms t)).before a st = _
    rw [Jvm.Cond.before_and, ih, List.all_cons]
def words1 : List Jvm.Cond := Jvm.Cond.code x code maxLocals ret :: tables_1
/-- a 'code' word, met by the world's own term for the bytes: nothing is compared byte by byte -/
theorem code_word {y : MethodName} {bytes : ByteArray} {mx : Nat} {rt : Option FieldType} {a : Array Value} {s : State} {m : MethodId} {meth : Method} {c : Code} (h1 : s.methodNamed? y = some m) (h2 : s.vm.method? m = some meth) (h3 : meth.code = some c) (h4 : c.code = bytes)
    (h5 : (c.maxLocals == mx && c.exceptionTable.isEmpty && decide (c.maxStack ≤ mostOperands) && decide (meth.sig.returnType = rt) && !meth.locks && decide (parseMethodDescriptor y.desc = some meth.sig)) = true) : (Jvm.Cond.code y bytes mx rt).before a s = true := by
  simp only [Bool.and_eq_true, beq_iff_eq, Bool.not_eq_true', decide_eq_true_eq] at h5
  obtain ⟨⟨⟨⟨⟨g1, g2⟩, g3⟩, g4⟩, g5⟩, g6⟩ := h5
  simp [Cond.before, Cond.holds, Cond.value, h1, h2, h3, h4, g1, g2, g3, g4, g5, g6]
def isCode : Jvm.Cond → Bool
  | .code _ _ _ _ => true
  | _ => false
theorem all_split {L : List Jvm.Cond} {P : Jvm.Cond → Bool} (h1 : L.all (fun c => isCode c || P c) = true) (h2 : ∀ c ∈ L.filter isCode, P c = true) : L.all P = true := by
  refine List.all_eq_true.mpr fun c hc => ?_
  have h := List.all_eq_true.mp h1 c hc
  rcases Bool.eq_false_or_eq_true (isCode c) with hi | hi
  · exact h2 c (List.mem_filter.mpr ⟨hc, hi⟩)
  · simpa [hi] using h
set_option maxRecDepth 65536 in
theorem w_c0 : (Jvm.Cond.code x code maxLocals ret).before args0 about1 = true := code_word (m := ⟨1, 1⟩) (meth := k1m1) (c := k1c1) (by decide +kernel) rfl rfl rfl (by decide +kernel)
set_option maxRecDepth 65536 in
theorem w_c1 : (Jvm.Cond.code ({ cls := "com/example/facetwork/facetwork/image/RgbaImageArgbPinLaw", name := "put", desc := "([BII)V" } : Jvm.MethodName) method_3_code (3 : Nat) (Option.none : Option Jvm.ClassFile.FieldType)).before args0 about1 = true := code_word (m := ⟨1, 2⟩) (meth := k1m2) (c := k1c2) (by decide +kernel) rfl rfl rfl (by decide +kernel)
set_option maxRecDepth 65536 in
theorem w_c2 : (Jvm.Cond.code ({ cls := "com/example/facetwork/facetwork/image/RgbaImage", name := "<init>", desc := "(II[B)V" } : Jvm.MethodName) prog_4_method_1_code (4 : Nat) (Option.none : Option Jvm.ClassFile.FieldType)).before args0 about1 = true := code_word (m := ⟨2, 0⟩) (meth := k2m0) (c := k2c0) (by decide +kernel) rfl rfl rfl (by decide +kernel)
set_option maxRecDepth 65536 in
theorem w_c3 : (Jvm.Cond.code ({ cls := "java/lang/Object", name := "<init>", desc := "()V" } : Jvm.MethodName) object_method_1_code (1 : Nat) (Option.none : Option Jvm.ClassFile.FieldType)).before args0 about1 = true := code_word (m := ⟨0, 0⟩) (meth := k0m0) (c := k0c0) (by decide +kernel) rfl rfl rfl (by decide +kernel)
set_option maxRecDepth 65536 in
theorem w_c4 : (Jvm.Cond.code ({ cls := "com/example/facetwork/facetwork/image/RgbaImage", name := "argb", desc := "(II)I" } : Jvm.MethodName) prog_4_method_6_code (4 : Nat) (Option.some Jvm.ClassFile.FieldType.int)).before args0 about1 = true := code_word (m := ⟨2, 1⟩) (meth := k2m1) (c := k2c1) (by decide +kernel) rfl rfl rfl (by decide +kernel)
def codes1 : List Jvm.Cond := [Jvm.Cond.code x code maxLocals ret, Jvm.Cond.code ({ cls := "com/example/facetwork/facetwork/image/RgbaImageArgbPinLaw", name := "put", desc := "([BII)V" } : Jvm.MethodName) method_3_code (3 : Nat) (Option.none : Option Jvm.ClassFile.FieldType), Jvm.Cond.code ({ cls := "com/example/facetwork/facetwork/image/RgbaImage", name := "<init>", desc := "(II[B)V" } : Jvm.MethodName) prog_4_method_1_code (4 : Nat) (Option.none : Option Jvm.ClassFile.FieldType), Jvm.Cond.code ({ cls := "java/lang/Object", name := "<init>", desc := "()V" } : Jvm.MethodName) object_method_1_code (1 : Nat) (Option.none : Option Jvm.ClassFile.FieldType), Jvm.Cond.code ({ cls := "com/example/facetwork/facetwork/image/RgbaImage", name := "argb", desc := "(II)I" } : Jvm.MethodName) prog_4_method_6_code (4 : Nat) (Option.some Jvm.ClassFile.FieldType.int)]
set_option maxRecDepth 65536 in
theorem codes_eq : words1.filter isCode = codes1 := rfl
theorem w_codes : ∀ c ∈ words1.filter isCode, c.before args0 about1 = true := by
  rw [codes_eq]
  intro c hc
  simp only [codes1, List.mem_cons, List.not_mem_nil, or_false] at hc
  rcases hc with rfl | rfl | rfl | rfl | rfl
  · exact w_c0
  · exact w_c1
  · exact w_c2
  · exact w_c3
  · exact w_c4
set_option maxRecDepth 65536 in
theorem w_t1 : (words1.take 24).all (fun c => isCode c || c.before args0 about1) = true := by decide +kernel
set_option maxRecDepth 65536 in
theorem w_t2 : (words1.drop 24).all (fun c => isCode c || c.before args0 about1) = true := by decide +kernel
theorem w_tables : (allAtoms (Jvm.Cond.code x code maxLocals ret :: tables_1)).before args0 about1 = true := by
  rw [allAtoms_all]
  show words1.all (fun c => c.before args0 about1) = true
  refine all_split ?_ w_codes
  rw [← List.take_append_drop 24 words1, List.all_append, w_t1, w_t2]
  rfl
set_option maxRecDepth 65536 in
theorem w_case : (Jvm.Cond.and given_1 narrow_1).before args0 about1 = true := by decide +kernel
theorem w_applies : (headSpec (Jvm.Cond.code x code maxLocals ret :: tables_1) room_1).applies x e0.platform about1 = true :=
  (Spec.applies_iff w_frames).mpr ⟨w_running, w_runnable, w_alone, w_named, w_hears, w_ripe, w_room, w_tables⟩
theorem atStart : AtStart classFile x code maxLocals ret World_1 tables_1 room_1 Calls_1 rest_1 Pre_1 launch0 p0 e0 about1 theMethod args0 below0 :=
  ⟨lists_1, trivial, launch0.admits_env _ _ _, launch0.least_env, fairChoices_fair.cas, fairChoices_fair.clock, w_frames, w_args, w_heap, w_applies, trivial, trivial, w_case⟩
end start1
theorem witness_1 : WitnessClaimed_1 := ⟨start1.p0, start1.e0, start1.about1, start1.theMethod, start1.args0, start1.below0, start1.atStart⟩
end Jvm.Pilot.@@N@@
