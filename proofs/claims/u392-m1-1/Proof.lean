import JvmDerived
import JvmDerived.Pilot.@@N@@Statement
import JvmDerived.Pilot.@@N@@Code
set_option linter.unusedVariables false
set_option linter.unusedSimpArgs false
namespace Jvm.Pilot.@@N@@
open Jvm Jvm.ClassFile Sem Op Lib Jvm.Free Jvm.Stand Jvm.LawKit Jvm.RoadKit Bundle Jvm.Pilot.@@N@@.Jvm.D
def own_bi (P : Prop) [Decidable P] : Int32 := if P then 1 else 0
theorem own_bi_t {P : Prop} [Decidable P] (h : P) : own_bi P = 1 := if_pos h
theorem own_bi_f {P : Prop} [Decidable P] (h : ¬ P) : own_bi P = 0 := if_neg h
theorem own_bi_01 (P : Prop) [Decidable P] : own_bi P = 0 ∨ own_bi P = 1 := by by_cases h : P <;> simp [own_bi, h]
theorem own_bi_eq {P Q : Prop} [Decidable P] [Decidable Q] (h : P ↔ Q) : own_bi P = own_bi Q := by by_cases q : P <;> simp [own_bi, q, ← h]
theorem own_bi_iff (P : Prop) [Decidable P] : own_bi P = 1 ↔ P := by by_cases q : P <;> simp [own_bi, q]
theorem own_bi_ne (P : Prop) [Decidable P] : own_bi P = 0 ↔ ¬ P := by by_cases q : P <;> simp [own_bi, q]
theorem own_ofNat {n : Nat} (h : n < 2147483648) : (Int32.ofNat n).toInt = (n : Int) := len_toInt h
theorem own_narZ {z : Int32} (h : z = 0 ∨ z = 1) : narrow .boolean (.int z) = .int z := by rcases h with rfl | rfl <;> rfl
theorem own_fitZ {z : Int32} (h : z = 0 ∨ z = 1) : fits .boolean (.int z) = true := by rcases h with rfl | rfl <;> rfl
def own_fl (q1 q2 q3 q4 : Int32) : Int32 := (((if q1 = 0 then 0 else 1) ||| (if q2 = 0 then 0 else 2)) ||| (if q3 = 0 then 0 else 4)) ||| (if q4 = 0 then 0 else 8)
def own_f (y : Int32) : Int32 := if (y &&& 2) = 0 then y &&& 1 else y
def own_ok (f : Int32) : Bool := decide (own_fl (own_bi (¬ (f &&& 1) = 0)) (own_bi (¬ (f &&& 2) = 0)) (own_bi (¬ (f &&& 4) = 0)) (own_bi (¬ (f &&& 8) = 0)) = f) && decide (¬ own_bi (¬ (f &&& 2) = 0) = 0 ∨ (own_bi (¬ (f &&& 4) = 0) = 0 ∧ own_bi (¬ (f &&& 8) = 0) = 0))
theorem own_fin : ∀ n : Fin 16, own_ok (own_f (Int32.ofNat n.1)) = true := by decide +kernel
theorem own_all (x : Int32) : own_ok (own_f (x &&& 15)) = true := by
  have h := c_mask x 15 4 (by decide) (by decide)
  have e : (x &&& 15) = Int32.ofNat (x &&& 15).toInt.toNat := by
    apply Int32.toInt_inj.mp
    refine Eq.trans ?_ (own_ofNat ?_).symm <;> omega
  have := own_fin ⟨(x &&& 15).toInt.toNat, by omega⟩
  rwa [← e] at this
theorem own_law {x f b1 b2 b3 b4 : Int32} (hf : f = own_f (x &&& 15)) (h1 : b1 = own_bi (¬ (f &&& 1) = 0)) (h2 : b2 = own_bi (¬ (f &&& 2) = 0)) (h3 : b3 = own_bi (¬ (f &&& 4) = 0)) (h4 : b4 = own_bi (¬ (f &&& 8) = 0)) : own_fl b1 b2 b3 b4 = f ∧ (¬ b2 = 0 ∨ (b3 = 0 ∧ b4 = 0)) := by
  have q := own_all x
  rw [← hf] at q
  simp only [own_ok, Bool.and_eq_true, decide_eq_true_eq] at q
  subst h1 h2 h3 h4
  exact q
theorem pn_2 : plainName "java/lang/Record" = true := by first | (simp [plainName, overriddenIn]; done) | decide +kernel
theorem d2_0 : decode jdk_30_method_1_code 0 = .ok (.aload_n 0, 1) := by decide +kernel
theorem d2_1 : decode jdk_30_method_1_code 1 = .ok (.invokespecial 1, 3) := by decide +kernel
theorem d2_4 : decode jdk_30_method_1_code 4 = .ok (.return_, 1) := by decide +kernel
theorem ef_2 (m : MethodId) (a1 : Addr) : entryFrame m #[(.ref a1)] 1 = mkF m 0 #[.val (.ref a1)] [] := by first | (simp [entryFrame, mkF, argsToLocals, Value.category]; done) | rfl
def Q2 (Z : State) (a1 : Addr) (h0 : Heap) (n0 : Nat) (v : Option Value) (h : Heap) (L : List Loc) : Prop := v = none ∧ Fr n0 L ∧ h = h0
set_option maxRecDepth 65536 in
set_option maxHeartbeats 40000000 in
theorem rm2 (l : Launch) (Z : State) (a0 : Array Value) (hw : ∀ d ∈ tables_1, d.before a0 Z = true) (ws : List Jvm.Cond) (a1 : Addr) (h0 : Heap) (n0 : Nat) (Z0 : n0 ≤ h0.size) :
    MetFree l (⟨"java/lang/Record", "<init>", "()V"⟩ : MethodName) (head1 (Jvm.Cond.code (⟨"java/lang/Record", "<init>", "()V"⟩ : MethodName) jdk_30_method_1_code 1 none :: ws) ({ frames := 1, cells := 0, slots := 0, locals := 12 } : Room)) (fun a U => a = #[(.ref a1)] ∧ Z.Warmed39 U.vm ∧ U.heap = h0) (fun _ _ _ _ _ => True) (fun _ U o U' => ∃ v L, o = .returned v ∧ Q2 Z a1 h0 n0 v U'.heap L ∧ FrameEnd U o U' L ({ frames := 1, cells := 0, slots := 0, locals := 12 } : Room).cells ({ frames := 1, cells := 0, slots := 0, locals := 12 } : Room).slots) := by
  refine MetFree.of_bodySF (plainFor_of_name pn_2) hisR ?_
  intro p e s m args below meth c s₁ Bd hml0 hP hK
  obtain ⟨rfl, hZ, hh⟩ := hP
  have hx := Bd.exec
  have hby := Bd.bytes
  have hml : c.maxLocals = 1 := hml0
  have hown : s.vm.findClass "java/lang/Record" = some m.cls := findClass_of_methodNamed Bd.named
  have hnm := (name_of_methodNamed Bd.named Bd.method).1
  have X0 : Stand p l e ({ frames := 1, cells := 0, slots := 0, locals := 12 } : Room) s m #[(.ref a1)] below meth c s₁ [] 0 0 := Stand.of_body Bd
  have e0 : s₁.heap = h0 := by rw [← hh, Bd.state]; rfl
  have N0 := Fr.nil n0
  have pre0 : ∀ t, Steps p.tables e below (s₁.setTop (mkF m 0 #[.val (.ref a1)] [])) t → Steps p.tables e below (s₁.setTop (entryFrame m #[(.ref a1)] 1)) t := fun t k => castTop (ef_2 m a1) k
  have pre1 : ∀ t, Steps p.tables e below (s₁.setTop (mkF m 1 #[.val (.ref a1)] [(.ref a1)])) t → Steps p.tables e below (s₁.setTop (entryFrame m #[(.ref a1)] 1)) t := by
    intro t k
    refine pre0 t ?_
    refine XS.aloadN X0.here hx rfl (hb hby d2_0) rfl rfl ?_
    show Steps p.tables e below (s₁.setTop (mkF m 1 #[.val (.ref a1)] [(.ref a1)])) _
    exact k
  obtain ⟨T2, X2, e2, st2⟩ := initO X0 hx hZ hown (hw _ (List.mem_of_getElem? (i := 11) rfl)) (hw _ (List.mem_of_getElem? (i := 12) rfl)) (hw _ (List.mem_of_getElem? (i := 13) rfl)) e0 (g := (mkF m 1 #[.val (.ref a1)] [(.ref a1)])) rfl (by rw [hml]; rfl) rfl (hb hby d2_1) (by decide) (W := 0) (by show 2 * 0 + _ ≤ _; exact Nat.le_of_eq rfl) (by decide)
  have pre3 : ∀ t, Steps p.tables e below (T2.setTop (mkF m 4 #[.val (.ref a1)] [])) t → Steps p.tables e below (s₁.setTop (entryFrame m #[(.ref a1)] 1)) t := fun t k => pre1 t (st2 t k)
  obtain ⟨fs, hr, hrun, hended, hW, hsame⟩ := X2.leave (v := none) (fun _ => rfl)
  refine ⟨_, _, pre3 _ ?_, hrun, hended, _, _, rfl, ?_, ⟨_, rfl⟩, hW, hsame.mono (by decide) (by decide)⟩
  · exact X2.returnOut hx Bd.returns (hb hby d2_4) hr
  · show Q2 Z a1 h0 n0 _ T2.heap _
    rw [e2]
    exact ⟨rfl, N0, rfl⟩
theorem pd_rec : parseMethodDescriptor "()V" = some ⟨[], none⟩ := by decide +kernel
theorem pn_1 : plainName "com/example/okra/okra/pack/Settings" = true := by first | (simp [plainName, overriddenIn]; done) | decide +kernel
theorem d1_0 : decode prog_44_method_1_code 0 = .ok (.aload_n 0, 1) := by decide +kernel
theorem d1_1 : decode prog_44_method_1_code 1 = .ok (.invokespecial 1, 3) := by decide +kernel
theorem d1_4 : decode prog_44_method_1_code 4 = .ok (.iload_n 3, 1) := by decide +kernel
theorem d1_5 : decode prog_44_method_1_code 5 = .ok (.ifCond .ne 8, 3) := by decide +kernel
theorem d1_8 : decode prog_44_method_1_code 8 = .ok (.iload 4, 2) := by decide +kernel
theorem d1_10 : decode prog_44_method_1_code 10 = .ok (.ifCond .eq 17, 3) := by decide +kernel
theorem d1_13 : decode prog_44_method_1_code 13 = .ok (.iload_n 2, 1) := by decide +kernel
theorem d1_14 : decode prog_44_method_1_code 14 = .ok (.ifCond .ne 13, 3) := by decide +kernel
theorem d1_27 : decode prog_44_method_1_code 27 = .ok (.aload_n 0, 1) := by decide +kernel
theorem d1_28 : decode prog_44_method_1_code 28 = .ok (.iload_n 1, 1) := by decide +kernel
theorem d1_29 : decode prog_44_method_1_code 29 = .ok (.putfield 14, 3) := by decide +kernel
theorem d1_32 : decode prog_44_method_1_code 32 = .ok (.aload_n 0, 1) := by decide +kernel
theorem d1_33 : decode prog_44_method_1_code 33 = .ok (.iload_n 2, 1) := by decide +kernel
theorem d1_34 : decode prog_44_method_1_code 34 = .ok (.putfield 20, 3) := by decide +kernel
theorem d1_37 : decode prog_44_method_1_code 37 = .ok (.aload_n 0, 1) := by decide +kernel
theorem d1_38 : decode prog_44_method_1_code 38 = .ok (.iload_n 3, 1) := by decide +kernel
theorem d1_39 : decode prog_44_method_1_code 39 = .ok (.putfield 23, 3) := by decide +kernel
theorem d1_42 : decode prog_44_method_1_code 42 = .ok (.aload_n 0, 1) := by decide +kernel
theorem d1_43 : decode prog_44_method_1_code 43 = .ok (.iload 4, 2) := by decide +kernel
theorem d1_45 : decode prog_44_method_1_code 45 = .ok (.putfield 26, 3) := by decide +kernel
theorem d1_48 : decode prog_44_method_1_code 48 = .ok (.return_, 1) := by decide +kernel
theorem ef_1 (m : MethodId) (a1 : Addr) (p2 : Int32) (p3 : Int32) (p4 : Int32) (p5 : Int32) : entryFrame m #[(.ref a1), (.int p2), (.int p3), (.int p4), (.int p5)] 5 = mkF m 0 #[.val (.ref a1), .val (.int p2), .val (.int p3), .val (.int p4), .val (.int p5)] [] := by first | (simp [entryFrame, mkF, argsToLocals, Value.category]; done) | rfl
def Q1 (Z : State) (a1 : Addr) (p2 : Int32) (p3 : Int32) (p4 : Int32) (p5 : Int32) (h0 : Heap) (n0 : Nat) (v : Option Value) (h : Heap) (L : List Loc) : Prop := v = none ∧ Fr n0 L ∧ Keep h0 h [a1] ∧ Fld Z h a1 "com/example/okra/okra/pack/Settings" "ordered" "Z" (.int p2) ∧ Fld Z h a1 "com/example/okra/okra/pack/Settings" "offsets" "Z" (.int p3) ∧ Fld Z h a1 "com/example/okra/okra/pack/Settings" "valueOrder" "Z" (.int p4) ∧ Fld Z h a1 "com/example/okra/okra/pack/Settings" "persisted" "Z" (.int p5)
set_option maxRecDepth 65536 in
set_option maxHeartbeats 40000000 in
theorem rm1 (l : Launch) (Z : State) (a0 : Array Value) (hw : ∀ d ∈ tables_1, d.before a0 Z = true) (ws : List Jvm.Cond) (a1 : Addr) (p2 : Int32) (p3 : Int32) (p4 : Int32) (p5 : Int32) (h0 : Heap) (n0 : Nat) (Z0 : n0 ≤ h0.size) (E1 : Exa Z h0 a1 "com/example/okra/okra/pack/Settings") (ga1 : n0 ≤ a1) (hv : ¬ p3 = 0 ∨ (p4 = 0 ∧ p5 = 0)) (z2 : p2 = 0 ∨ p2 = 1) (z3 : p3 = 0 ∨ p3 = 1) (z4 : p4 = 0 ∨ p4 = 1) (z5 : p5 = 0 ∨ p5 = 1) (Fordered : Fld Z h0 a1 "com/example/okra/okra/pack/Settings" "ordered" "Z" (.int (0 : Int32))) (Foffsets : Fld Z h0 a1 "com/example/okra/okra/pack/Settings" "offsets" "Z" (.int (0 : Int32))) (FvalueOrder : Fld Z h0 a1 "com/example/okra/okra/pack/Settings" "valueOrder" "Z" (.int (0 : Int32))) (Fpersisted : Fld Z h0 a1 "com/example/okra/okra/pack/Settings" "persisted" "Z" (.int (0 : Int32))) :
    MetFree l (⟨"com/example/okra/okra/pack/Settings", "<init>", "(ZZZZ)V"⟩ : MethodName) (head1 (Jvm.Cond.code (⟨"com/example/okra/okra/pack/Settings", "<init>", "(ZZZZ)V"⟩ : MethodName) prog_44_method_1_code 5 none :: ws) ({ frames := 2, cells := 0, slots := 0, locals := 24 } : Room)) (fun a U => a = #[(.ref a1), (.int p2), (.int p3), (.int p4), (.int p5)] ∧ Z.Warmed39 U.vm ∧ U.heap = h0) (fun _ _ _ _ _ => True) (fun _ U o U' => ∃ v L, o = .returned v ∧ Q1 Z a1 p2 p3 p4 p5 h0 n0 v U'.heap L ∧ FrameEnd U o U' L ({ frames := 2, cells := 0, slots := 0, locals := 24 } : Room).cells ({ frames := 2, cells := 0, slots := 0, locals := 24 } : Room).slots) := by
  refine MetFree.of_bodySF (plainFor_of_name pn_1) hisR ?_
  intro p e s m args below meth c s₁ Bd hml0 hP hK
  obtain ⟨rfl, hZ, hh⟩ := hP
  have hx := Bd.exec
  have hby := Bd.bytes
  have hml : c.maxLocals = 5 := hml0
  have hown : s.vm.findClass "com/example/okra/okra/pack/Settings" = some m.cls := findClass_of_methodNamed Bd.named
  have hnm := (name_of_methodNamed Bd.named Bd.method).1
  have X0 : Stand p l e ({ frames := 2, cells := 0, slots := 0, locals := 24 } : Room) s m #[(.ref a1), (.int p2), (.int p3), (.int p4), (.int p5)] below meth c s₁ [] 0 0 := Stand.of_body Bd
  have e0 : s₁.heap = h0 := by rw [← hh, Bd.state]; rfl
  have N0 := Fr.nil n0
  have pre0 : ∀ t, Steps p.tables e below (s₁.setTop (mkF m 0 #[.val (.ref a1), .val (.int p2), .val (.int p3), .val (.int p4), .val (.int p5)] [])) t → Steps p.tables e below (s₁.setTop (entryFrame m #[(.ref a1), (.int p2), (.int p3), (.int p4), (.int p5)] 5)) t := fun t k => castTop (ef_1 m a1 p2 p3 p4 p5) k
  have pre2 : ∀ t, Steps p.tables e below (s₁.setTop (mkF m 1 #[.val (.ref a1), .val (.int p2), .val (.int p3), .val (.int p4), .val (.int p5)] [(.ref a1)])) t → Steps p.tables e below (s₁.setTop (entryFrame m #[(.ref a1), (.int p2), (.int p3), (.int p4), (.int p5)] 5)) t := by
    intro t k
    refine pre0 t ?_
    refine XS.aloadN X0.here hx rfl (hb hby d1_0) rfl rfl ?_
    show Steps p.tables e below (s₁.setTop (mkF m 1 #[.val (.ref a1), .val (.int p2), .val (.int p3), .val (.int p4), .val (.int p5)] [(.ref a1)])) _
    exact k
  have K1 : Keep h0 h0 [a1] := (Keep.refl h0 [a1])
  obtain ⟨_, _, ⟨T3, L3, k3, n3⟩, -, X3, ⟨Lc3, hQ3, l3, y3, z3⟩, st3⟩ := X0.specialBack hx (y := (⟨"java/lang/Record", "<init>", "()V"⟩ : MethodName)) rfl hown (mvT hZ (hw _ (List.mem_of_getElem? (i := 6) rfl))) (mvT hZ (hw _ (List.mem_of_getElem? (i := 7) rfl))) (mvT hZ (hw _ (List.mem_of_getElem? (i := 10) rfl))) (by decide) (backOf (W := 0) (rm2 l Z a0 hw [] a1 h0 n0 Z0) hZ (hw _ (List.mem_of_getElem? (i := 10) rfl)) (hw _ (List.mem_of_getElem? (i := 9) rfl)) (by decide) (by decide)) (g := (mkF m 1 #[.val (.ref a1), .val (.int p2), .val (.int p3), .val (.int p4), .val (.int p5)] [(.ref a1)])) rfl (by rw [hml]; rfl) (Steps.refl _) (a := a1) (argsL := []) (rest := []) (lenOf pd_rec rfl) rfl (by show 2 * 0 + _ ≤ _; exact Nat.le_of_eq rfl) (hb hby d1_1) (fun _ _ => ⟨rfl, e0, (by decide : 0 + 0 ≤ _), (by decide : 0 + 0 ≤ _)⟩)
  dsimp only [Pt.U, Pt.locs, Pt.cells, Pt.slots] at X3 l3 y3 z3 st3 hQ3
  subst l3 y3 z3
  obtain ⟨rfl, Nq3, heq3⟩ := hQ3
  have N3 := Fr.app N0 Nq3
  have pre4 : ∀ t, Steps p.tables e below (T3.setTop (mkF m 4 #[.val (.ref a1), .val (.int p2), .val (.int p3), .val (.int p4), .val (.int p5)] [])) t → Steps p.tables e below (s₁.setTop (entryFrame m #[(.ref a1), (.int p2), (.int p3), (.int p4), (.int p5)] 5)) t := fun t k => pre2 t (st3.trans k)
  have mrg5 : ∃ (T5 : State) (Lo5 : List Loc), Stand p l e ({ frames := 2, cells := 0, slots := 0, locals := 24 } : Room) s m #[(.ref a1), (.int p2), (.int p3), (.int p4), (.int p5)] below meth c T5 Lo5 0 0 ∧ Fr n0 Lo5 ∧ T5.heap = h0 ∧ (True) ∧ ∀ t, Steps p.tables e below (T5.setTop (mkF m 27 #[.val (.ref a1), .val (.int p2), .val (.int p3), .val (.int p4), .val (.int p5)] [])) t → Steps p.tables e below (s₁.setTop (entryFrame m #[(.ref a1), (.int p2), (.int p3), (.int p4), (.int p5)] 5)) t := by
    have pre6 : ∀ t, Steps p.tables e below (T3.setTop (mkF m 5 #[.val (.ref a1), .val (.int p2), .val (.int p3), .val (.int p4), .val (.int p5)] [(.int p4)])) t → Steps p.tables e below (s₁.setTop (entryFrame m #[(.ref a1), (.int p2), (.int p3), (.int p4), (.int p5)] 5)) t := by
      intro t k
      refine pre4 t ?_
      refine XS.iloadN X3.here hx rfl (hb hby d1_4) rfl ?_
      show Steps p.tables e below (T3.setTop (mkF m 5 #[.val (.ref a1), .val (.int p2), .val (.int p3), .val (.int p4), .val (.int p5)] [(.int p4)])) _
      exact k
    by_cases hc5 : p4 = (0 : Int32)
    · skip
      have pre7 : ∀ t, Steps p.tables e below (T3.setTop (mkF m 10 #[.val (.ref a1), .val (.int p2), .val (.int p3), .val (.int p4), .val (.int p5)] [(.int p5)])) t → Steps p.tables e below (s₁.setTop (entryFrame m #[(.ref a1), (.int p2), (.int p3), (.int p4), (.int p5)] 5)) t := by
        intro t k
        refine pre6 t ?_
        refine XS.ifNo X3.here hx rfl (hb hby d1_5) rfl (XT.i0_ne_f hc5) ?_
        show Steps p.tables e below (T3.setTop (mkF m 8 #[.val (.ref a1), .val (.int p2), .val (.int p3), .val (.int p4), .val (.int p5)] [])) _
        refine XS.iload X3.here hx rfl (hb hby d1_8) rfl ?_
        show Steps p.tables e below (T3.setTop (mkF m 10 #[.val (.ref a1), .val (.int p2), .val (.int p3), .val (.int p4), .val (.int p5)] [(.int p5)])) _
        exact k
      by_cases hc10 : p5 = (0 : Int32)
      · skip
        have pre8 : ∀ t, Steps p.tables e below (T3.setTop (mkF m 27 #[.val (.ref a1), .val (.int p2), .val (.int p3), .val (.int p4), .val (.int p5)] [])) t → Steps p.tables e below (s₁.setTop (entryFrame m #[(.ref a1), (.int p2), (.int p3), (.int p4), (.int p5)] 5)) t := by
          intro t k
          refine pre7 t ?_
          refine XS.ifYes X3.here hx rfl (pc0 := 10) (pc' := 27) rfl (hb hby d1_10) rfl (XT.i0_eq_t hc10) (by decide) (by decide) ?_
          show Steps p.tables e below (T3.setTop (mkF m 27 #[.val (.ref a1), .val (.int p2), .val (.int p3), .val (.int p4), .val (.int p5)] [])) _
          exact k
        exact ⟨_, _, X3, N3, heq3, (by trivial), pre8⟩
      · skip
        have pre9 : ∀ t, Steps p.tables e below (T3.setTop (mkF m 27 #[.val (.ref a1), .val (.int p2), .val (.int p3), .val (.int p4), .val (.int p5)] [])) t → Steps p.tables e below (s₁.setTop (entryFrame m #[(.ref a1), (.int p2), (.int p3), (.int p4), (.int p5)] 5)) t := by
          intro t k
          refine pre7 t ?_
          refine XS.ifNo X3.here hx rfl (hb hby d1_10) rfl (XT.i0_eq_f hc10) ?_
          show Steps p.tables e below (T3.setTop (mkF m 13 #[.val (.ref a1), .val (.int p2), .val (.int p3), .val (.int p4), .val (.int p5)] [])) _
          refine XS.iloadN X3.here hx rfl (hb hby d1_13) rfl ?_
          show Steps p.tables e below (T3.setTop (mkF m 14 #[.val (.ref a1), .val (.int p2), .val (.int p3), .val (.int p4), .val (.int p5)] [(.int p3)])) _
          refine XS.ifYes X3.here hx rfl (pc0 := 14) (pc' := 27) rfl (hb hby d1_14) rfl (XT.i0_ne_t (by first | exact hv.resolve_right (fun q => hc5 q.1) | exact hv.resolve_right (fun q => hc10 q.2))) (by decide) (by decide) ?_
          show Steps p.tables e below (T3.setTop (mkF m 27 #[.val (.ref a1), .val (.int p2), .val (.int p3), .val (.int p4), .val (.int p5)] [])) _
          exact k
        exact ⟨_, _, X3, N3, heq3, (by trivial), pre9⟩
    · skip
      have pre10 : ∀ t, Steps p.tables e below (T3.setTop (mkF m 27 #[.val (.ref a1), .val (.int p2), .val (.int p3), .val (.int p4), .val (.int p5)] [])) t → Steps p.tables e below (s₁.setTop (entryFrame m #[(.ref a1), (.int p2), (.int p3), (.int p4), (.int p5)] 5)) t := by
        intro t k
        refine pre6 t ?_
        refine XS.ifYes X3.here hx rfl (pc0 := 5) (pc' := 13) rfl (hb hby d1_5) rfl (XT.i0_ne_t hc5) (by decide) (by decide) ?_
        show Steps p.tables e below (T3.setTop (mkF m 13 #[.val (.ref a1), .val (.int p2), .val (.int p3), .val (.int p4), .val (.int p5)] [])) _
        refine XS.iloadN X3.here hx rfl (hb hby d1_13) rfl ?_
        show Steps p.tables e below (T3.setTop (mkF m 14 #[.val (.ref a1), .val (.int p2), .val (.int p3), .val (.int p4), .val (.int p5)] [(.int p3)])) _
        refine XS.ifYes X3.here hx rfl (pc0 := 14) (pc' := 27) rfl (hb hby d1_14) rfl (XT.i0_ne_t (by first | exact hv.resolve_right (fun q => hc5 q.1) | exact hv.resolve_right (fun q => hc10 q.2))) (by decide) (by decide) ?_
        show Steps p.tables e below (T3.setTop (mkF m 27 #[.val (.ref a1), .val (.int p2), .val (.int p3), .val (.int p4), .val (.int p5)] [])) _
        exact k
      exact ⟨_, _, X3, N3, heq3, (by trivial), pre10⟩
  obtain ⟨T5, Lo5, X5, N5, e5, h, pre5⟩ := mrg5
  have pre12 : ∀ t, Steps p.tables e below (T5.setTop (mkF m 29 #[.val (.ref a1), .val (.int p2), .val (.int p3), .val (.int p4), .val (.int p5)] [(.int p2), (.ref a1)])) t → Steps p.tables e below (s₁.setTop (entryFrame m #[(.ref a1), (.int p2), (.int p3), (.int p4), (.int p5)] 5)) t := by
    intro t k
    refine pre5 t ?_
    refine XS.aloadN X5.here hx rfl (hb hby d1_27) rfl rfl ?_
    show Steps p.tables e below (T5.setTop (mkF m 28 #[.val (.ref a1), .val (.int p2), .val (.int p3), .val (.int p4), .val (.int p5)] [(.ref a1)])) _
    refine XS.iloadN X5.here hx rfl (hb hby d1_28) rfl ?_
    show Steps p.tables e below (T5.setTop (mkF m 29 #[.val (.ref a1), .val (.int p2), .val (.int p3), .val (.int p4), .val (.int p5)] [(.int p2), (.ref a1)])) _
    exact k
  obtain ⟨T13, h13, X13, e13, W13, st13⟩ := putF X5 hx hZ hown (host := "") (Or.inl (hw _ (List.mem_of_getElem? (i := 14) rfl))) Via.refl e5 Fordered E1 (Or.inr ⟨(hw _ (List.mem_of_getElem? (i := 15) rfl)), rfl, hnm⟩) (hw _ (List.mem_of_getElem? (i := 1) rfl)) (ty := .boolean) (by decide) (own_narZ z2) (own_fitZ z2) (g := (mkF m 29 #[.val (.ref a1), .val (.int p2), .val (.int p3), .val (.int p4), .val (.int p5)] [(.int p2), (.ref a1)])) rfl rfl (hb hby d1_29)
  have N13 := Fr.snoc X13 N5 ga1
  have pre14 : ∀ t, Steps p.tables e below (T13.setTop (mkF m 32 #[.val (.ref a1), .val (.int p2), .val (.int p3), .val (.int p4), .val (.int p5)] [])) t → Steps p.tables e below (s₁.setTop (entryFrame m #[(.ref a1), (.int p2), (.int p3), (.int p4), (.int p5)] 5)) t := fun t k => pre12 t (st13 t k)
  have F15_0 : Fld Z h13 a1 "com/example/okra/okra/pack/Settings" "ordered" "Z" (.int p2) := (Fordered.same W13)
  have F15_1 : Fld Z h13 a1 "com/example/okra/okra/pack/Settings" "offsets" "Z" (.int (0 : Int32)) := (Foffsets.other W13 (Or.inr (slot_ne (Or.inr (hw _ (List.mem_of_getElem? (i := 17) rfl))) (Or.inr (hw _ (List.mem_of_getElem? (i := 15) rfl))) (by decide) (t := .boolean) (t' := .boolean) (by decide) (by decide))))
  have F15_2 : Fld Z h13 a1 "com/example/okra/okra/pack/Settings" "valueOrder" "Z" (.int (0 : Int32)) := (FvalueOrder.other W13 (Or.inr (slot_ne (Or.inr (hw _ (List.mem_of_getElem? (i := 19) rfl))) (Or.inr (hw _ (List.mem_of_getElem? (i := 15) rfl))) (by decide) (t := .boolean) (t' := .boolean) (by decide) (by decide))))
  have F15_3 : Fld Z h13 a1 "com/example/okra/okra/pack/Settings" "persisted" "Z" (.int (0 : Int32)) := (Fpersisted.other W13 (Or.inr (slot_ne (Or.inr (hw _ (List.mem_of_getElem? (i := 21) rfl))) (Or.inr (hw _ (List.mem_of_getElem? (i := 15) rfl))) (by decide) (t := .boolean) (t' := .boolean) (by decide) (by decide))))
  have E15_0 : Exa Z h13 a1 "com/example/okra/okra/pack/Settings" := (E1.wr W13)
  have K15 : Keep h0 h13 [a1] := (K1.wr W13 (Or.inl (List.mem_of_getElem? (i := 0) rfl)))
  have Z15 : n0 ≤ h13.size := (Nat.le_trans Z0 (Nat.le_of_eq W13.size.symm))
  have pre17 : ∀ t, Steps p.tables e below (T13.setTop (mkF m 34 #[.val (.ref a1), .val (.int p2), .val (.int p3), .val (.int p4), .val (.int p5)] [(.int p3), (.ref a1)])) t → Steps p.tables e below (s₁.setTop (entryFrame m #[(.ref a1), (.int p2), (.int p3), (.int p4), (.int p5)] 5)) t := by
    intro t k
    refine pre14 t ?_
    refine XS.aloadN X13.here hx rfl (hb hby d1_32) rfl rfl ?_
    show Steps p.tables e below (T13.setTop (mkF m 33 #[.val (.ref a1), .val (.int p2), .val (.int p3), .val (.int p4), .val (.int p5)] [(.ref a1)])) _
    refine XS.iloadN X13.here hx rfl (hb hby d1_33) rfl ?_
    show Steps p.tables e below (T13.setTop (mkF m 34 #[.val (.ref a1), .val (.int p2), .val (.int p3), .val (.int p4), .val (.int p5)] [(.int p3), (.ref a1)])) _
    exact k
  obtain ⟨T18, h18, X18, e18, W18, st18⟩ := putF X13 hx hZ hown (host := "") (Or.inl (hw _ (List.mem_of_getElem? (i := 16) rfl))) Via.refl e13 F15_1 E15_0 (Or.inr ⟨(hw _ (List.mem_of_getElem? (i := 17) rfl)), rfl, hnm⟩) (hw _ (List.mem_of_getElem? (i := 1) rfl)) (ty := .boolean) (by decide) (own_narZ z3) (own_fitZ z3) (g := (mkF m 34 #[.val (.ref a1), .val (.int p2), .val (.int p3), .val (.int p4), .val (.int p5)] [(.int p3), (.ref a1)])) rfl rfl (hb hby d1_34)
  have N18 := Fr.snoc X18 N13 ga1
  have pre19 : ∀ t, Steps p.tables e below (T18.setTop (mkF m 37 #[.val (.ref a1), .val (.int p2), .val (.int p3), .val (.int p4), .val (.int p5)] [])) t → Steps p.tables e below (s₁.setTop (entryFrame m #[(.ref a1), (.int p2), (.int p3), (.int p4), (.int p5)] 5)) t := fun t k => pre17 t (st18 t k)
  have F20_0 : Fld Z h18 a1 "com/example/okra/okra/pack/Settings" "ordered" "Z" (.int p2) := (F15_0.other W18 (Or.inr (slot_ne (Or.inr (hw _ (List.mem_of_getElem? (i := 15) rfl))) (Or.inr (hw _ (List.mem_of_getElem? (i := 17) rfl))) (by decide) (t := .boolean) (t' := .boolean) (by decide) (by decide))))
  have F20_1 : Fld Z h18 a1 "com/example/okra/okra/pack/Settings" "offsets" "Z" (.int p3) := (F15_1.same W18)
  have F20_2 : Fld Z h18 a1 "com/example/okra/okra/pack/Settings" "valueOrder" "Z" (.int (0 : Int32)) := (F15_2.other W18 (Or.inr (slot_ne (Or.inr (hw _ (List.mem_of_getElem? (i := 19) rfl))) (Or.inr (hw _ (List.mem_of_getElem? (i := 17) rfl))) (by decide) (t := .boolean) (t' := .boolean) (by decide) (by decide))))
  have F20_3 : Fld Z h18 a1 "com/example/okra/okra/pack/Settings" "persisted" "Z" (.int (0 : Int32)) := (F15_3.other W18 (Or.inr (slot_ne (Or.inr (hw _ (List.mem_of_getElem? (i := 21) rfl))) (Or.inr (hw _ (List.mem_of_getElem? (i := 17) rfl))) (by decide) (t := .boolean) (t' := .boolean) (by decide) (by decide))))
  have E20_0 : Exa Z h18 a1 "com/example/okra/okra/pack/Settings" := (E15_0.wr W18)
  have K20 : Keep h0 h18 [a1] := (K15.wr W18 (Or.inl (List.mem_of_getElem? (i := 0) rfl)))
  have Z20 : n0 ≤ h18.size := (Nat.le_trans Z15 (Nat.le_of_eq W18.size.symm))
  have pre22 : ∀ t, Steps p.tables e below (T18.setTop (mkF m 39 #[.val (.ref a1), .val (.int p2), .val (.int p3), .val (.int p4), .val (.int p5)] [(.int p4), (.ref a1)])) t → Steps p.tables e below (s₁.setTop (entryFrame m #[(.ref a1), (.int p2), (.int p3), (.int p4), (.int p5)] 5)) t := by
    intro t k
    refine pre19 t ?_
    refine XS.aloadN X18.here hx rfl (hb hby d1_37) rfl rfl ?_
    show Steps p.tables e below (T18.setTop (mkF m 38 #[.val (.ref a1), .val (.int p2), .val (.int p3), .val (.int p4), .val (.int p5)] [(.ref a1)])) _
    refine XS.iloadN X18.here hx rfl (hb hby d1_38) rfl ?_
    show Steps p.tables e below (T18.setTop (mkF m 39 #[.val (.ref a1), .val (.int p2), .val (.int p3), .val (.int p4), .val (.int p5)] [(.int p4), (.ref a1)])) _
    exact k
  obtain ⟨T23, h23, X23, e23, W23, st23⟩ := putF X18 hx hZ hown (host := "") (Or.inl (hw _ (List.mem_of_getElem? (i := 18) rfl))) Via.refl e18 F20_2 E20_0 (Or.inr ⟨(hw _ (List.mem_of_getElem? (i := 19) rfl)), rfl, hnm⟩) (hw _ (List.mem_of_getElem? (i := 1) rfl)) (ty := .boolean) (by decide) (own_narZ z4) (own_fitZ z4) (g := (mkF m 39 #[.val (.ref a1), .val (.int p2), .val (.int p3), .val (.int p4), .val (.int p5)] [(.int p4), (.ref a1)])) rfl rfl (hb hby d1_39)
  have N23 := Fr.snoc X23 N18 ga1
  have pre24 : ∀ t, Steps p.tables e below (T23.setTop (mkF m 42 #[.val (.ref a1), .val (.int p2), .val (.int p3), .val (.int p4), .val (.int p5)] [])) t → Steps p.tables e below (s₁.setTop (entryFrame m #[(.ref a1), (.int p2), (.int p3), (.int p4), (.int p5)] 5)) t := fun t k => pre22 t (st23 t k)
  have F25_0 : Fld Z h23 a1 "com/example/okra/okra/pack/Settings" "ordered" "Z" (.int p2) := (F20_0.other W23 (Or.inr (slot_ne (Or.inr (hw _ (List.mem_of_getElem? (i := 15) rfl))) (Or.inr (hw _ (List.mem_of_getElem? (i := 19) rfl))) (by decide) (t := .boolean) (t' := .boolean) (by decide) (by decide))))
  have F25_1 : Fld Z h23 a1 "com/example/okra/okra/pack/Settings" "offsets" "Z" (.int p3) := (F20_1.other W23 (Or.inr (slot_ne (Or.inr (hw _ (List.mem_of_getElem? (i := 17) rfl))) (Or.inr (hw _ (List.mem_of_getElem? (i := 19) rfl))) (by decide) (t := .boolean) (t' := .boolean) (by decide) (by decide))))
  have F25_2 : Fld Z h23 a1 "com/example/okra/okra/pack/Settings" "valueOrder" "Z" (.int p4) := (F20_2.same W23)
  have F25_3 : Fld Z h23 a1 "com/example/okra/okra/pack/Settings" "persisted" "Z" (.int (0 : Int32)) := (F20_3.other W23 (Or.inr (slot_ne (Or.inr (hw _ (List.mem_of_getElem? (i := 21) rfl))) (Or.inr (hw _ (List.mem_of_getElem? (i := 19) rfl))) (by decide) (t := .boolean) (t' := .boolean) (by decide) (by decide))))
  have E25_0 : Exa Z h23 a1 "com/example/okra/okra/pack/Settings" := (E20_0.wr W23)
  have K25 : Keep h0 h23 [a1] := (K20.wr W23 (Or.inl (List.mem_of_getElem? (i := 0) rfl)))
  have Z25 : n0 ≤ h23.size := (Nat.le_trans Z20 (Nat.le_of_eq W23.size.symm))
  have pre27 : ∀ t, Steps p.tables e below (T23.setTop (mkF m 45 #[.val (.ref a1), .val (.int p2), .val (.int p3), .val (.int p4), .val (.int p5)] [(.int p5), (.ref a1)])) t → Steps p.tables e below (s₁.setTop (entryFrame m #[(.ref a1), (.int p2), (.int p3), (.int p4), (.int p5)] 5)) t := by
    intro t k
    refine pre24 t ?_
    refine XS.aloadN X23.here hx rfl (hb hby d1_42) rfl rfl ?_
    show Steps p.tables e below (T23.setTop (mkF m 43 #[.val (.ref a1), .val (.int p2), .val (.int p3), .val (.int p4), .val (.int p5)] [(.ref a1)])) _
    refine XS.iload X23.here hx rfl (hb hby d1_43) rfl ?_
    show Steps p.tables e below (T23.setTop (mkF m 45 #[.val (.ref a1), .val (.int p2), .val (.int p3), .val (.int p4), .val (.int p5)] [(.int p5), (.ref a1)])) _
    exact k
  obtain ⟨T28, h28, X28, e28, W28, st28⟩ := putF X23 hx hZ hown (host := "") (Or.inl (hw _ (List.mem_of_getElem? (i := 20) rfl))) Via.refl e23 F25_3 E25_0 (Or.inr ⟨(hw _ (List.mem_of_getElem? (i := 21) rfl)), rfl, hnm⟩) (hw _ (List.mem_of_getElem? (i := 1) rfl)) (ty := .boolean) (by decide) (own_narZ z5) (own_fitZ z5) (g := (mkF m 45 #[.val (.ref a1), .val (.int p2), .val (.int p3), .val (.int p4), .val (.int p5)] [(.int p5), (.ref a1)])) rfl rfl (hb hby d1_45)
  have N28 := Fr.snoc X28 N23 ga1
  have pre29 : ∀ t, Steps p.tables e below (T28.setTop (mkF m 48 #[.val (.ref a1), .val (.int p2), .val (.int p3), .val (.int p4), .val (.int p5)] [])) t → Steps p.tables e below (s₁.setTop (entryFrame m #[(.ref a1), (.int p2), (.int p3), (.int p4), (.int p5)] 5)) t := fun t k => pre27 t (st28 t k)
  have F30_0 : Fld Z h28 a1 "com/example/okra/okra/pack/Settings" "ordered" "Z" (.int p2) := (F25_0.other W28 (Or.inr (slot_ne (Or.inr (hw _ (List.mem_of_getElem? (i := 15) rfl))) (Or.inr (hw _ (List.mem_of_getElem? (i := 21) rfl))) (by decide) (t := .boolean) (t' := .boolean) (by decide) (by decide))))
  have F30_1 : Fld Z h28 a1 "com/example/okra/okra/pack/Settings" "offsets" "Z" (.int p3) := (F25_1.other W28 (Or.inr (slot_ne (Or.inr (hw _ (List.mem_of_getElem? (i := 17) rfl))) (Or.inr (hw _ (List.mem_of_getElem? (i := 21) rfl))) (by decide) (t := .boolean) (t' := .boolean) (by decide) (by decide))))
  have F30_2 : Fld Z h28 a1 "com/example/okra/okra/pack/Settings" "valueOrder" "Z" (.int p4) := (F25_2.other W28 (Or.inr (slot_ne (Or.inr (hw _ (List.mem_of_getElem? (i := 19) rfl))) (Or.inr (hw _ (List.mem_of_getElem? (i := 21) rfl))) (by decide) (t := .boolean) (t' := .boolean) (by decide) (by decide))))
  have F30_3 : Fld Z h28 a1 "com/example/okra/okra/pack/Settings" "persisted" "Z" (.int p5) := (F25_3.same W28)
  have E30_0 : Exa Z h28 a1 "com/example/okra/okra/pack/Settings" := (E25_0.wr W28)
  have K30 : Keep h0 h28 [a1] := (K25.wr W28 (Or.inl (List.mem_of_getElem? (i := 0) rfl)))
  have Z30 : n0 ≤ h28.size := (Nat.le_trans Z25 (Nat.le_of_eq W28.size.symm))
  obtain ⟨fs, hr, hrun, hended, hW, hsame⟩ := X28.leave (v := none) (fun _ => rfl)
  refine ⟨_, _, pre29 _ ?_, hrun, hended, _, _, rfl, ?_, ⟨_, rfl⟩, hW, hsame.mono (by decide) (by decide)⟩
  · exact X28.returnOut hx Bd.returns (hb hby d1_48) hr
  · show Q1 Z a1 p2 p3 p4 p5 h0 n0 _ T28.heap _
    rw [e28]
    exact ⟨rfl, N28, K30, F30_0, F30_1, F30_2, F30_3⟩
theorem pn_4 : plainName "com/example/okra/okra/pack/Settings" = true := by first | (simp [plainName, overriddenIn]; done) | decide +kernel
theorem d4_0 : decode prog_44_method_5_code 0 = .ok (.aload_n 0, 1) := by decide +kernel
theorem d4_1 : decode prog_44_method_5_code 1 = .ok (.getfield 14, 3) := by decide +kernel
theorem d4_4 : decode prog_44_method_5_code 4 = .ok (.ifCond .eq 7, 3) := by decide +kernel
theorem d4_7 : decode prog_44_method_5_code 7 = .ok (.iconst 1, 1) := by decide +kernel
theorem d4_8 : decode prog_44_method_5_code 8 = .ok (.goto 4, 3) := by decide +kernel
theorem d4_11 : decode prog_44_method_5_code 11 = .ok (.iconst 0, 1) := by decide +kernel
theorem d4_12 : decode prog_44_method_5_code 12 = .ok (.istore_n 1, 1) := by decide +kernel
theorem d4_13 : decode prog_44_method_5_code 13 = .ok (.iload_n 1, 1) := by decide +kernel
theorem d4_14 : decode prog_44_method_5_code 14 = .ok (.aload_n 0, 1) := by decide +kernel
theorem d4_15 : decode prog_44_method_5_code 15 = .ok (.getfield 20, 3) := by decide +kernel
theorem d4_18 : decode prog_44_method_5_code 18 = .ok (.ifCond .eq 7, 3) := by decide +kernel
theorem d4_21 : decode prog_44_method_5_code 21 = .ok (.iconst 2, 1) := by decide +kernel
theorem d4_22 : decode prog_44_method_5_code 22 = .ok (.goto 4, 3) := by decide +kernel
theorem d4_25 : decode prog_44_method_5_code 25 = .ok (.iconst 0, 1) := by decide +kernel
theorem d4_26 : decode prog_44_method_5_code 26 = .ok (.ior, 1) := by decide +kernel
theorem d4_27 : decode prog_44_method_5_code 27 = .ok (.istore_n 1, 1) := by decide +kernel
theorem d4_28 : decode prog_44_method_5_code 28 = .ok (.iload_n 1, 1) := by decide +kernel
theorem d4_29 : decode prog_44_method_5_code 29 = .ok (.aload_n 0, 1) := by decide +kernel
theorem d4_30 : decode prog_44_method_5_code 30 = .ok (.getfield 23, 3) := by decide +kernel
theorem d4_33 : decode prog_44_method_5_code 33 = .ok (.ifCond .eq 7, 3) := by decide +kernel
theorem d4_36 : decode prog_44_method_5_code 36 = .ok (.iconst 4, 1) := by decide +kernel
theorem d4_37 : decode prog_44_method_5_code 37 = .ok (.goto 4, 3) := by decide +kernel
theorem d4_40 : decode prog_44_method_5_code 40 = .ok (.iconst 0, 1) := by decide +kernel
theorem d4_41 : decode prog_44_method_5_code 41 = .ok (.ior, 1) := by decide +kernel
theorem d4_42 : decode prog_44_method_5_code 42 = .ok (.istore_n 1, 1) := by decide +kernel
theorem d4_43 : decode prog_44_method_5_code 43 = .ok (.iload_n 1, 1) := by decide +kernel
theorem d4_44 : decode prog_44_method_5_code 44 = .ok (.aload_n 0, 1) := by decide +kernel
theorem d4_45 : decode prog_44_method_5_code 45 = .ok (.getfield 26, 3) := by decide +kernel
theorem d4_48 : decode prog_44_method_5_code 48 = .ok (.ifCond .eq 8, 3) := by decide +kernel
theorem d4_51 : decode prog_44_method_5_code 51 = .ok (.bipush 8, 2) := by decide +kernel
theorem d4_53 : decode prog_44_method_5_code 53 = .ok (.goto 4, 3) := by decide +kernel
theorem d4_56 : decode prog_44_method_5_code 56 = .ok (.iconst 0, 1) := by decide +kernel
theorem d4_57 : decode prog_44_method_5_code 57 = .ok (.ior, 1) := by decide +kernel
theorem d4_58 : decode prog_44_method_5_code 58 = .ok (.ireturn, 1) := by decide +kernel
theorem ef_4 (m : MethodId) (a1 : Addr) : entryFrame m #[(.ref a1)] 2 = mkF m 0 #[.val (.ref a1), .unset] [] := by first | (simp [entryFrame, mkF, argsToLocals, Value.category]; done) | rfl
def Q4 (Z : State) (a1 : Addr) (q1 : Int32) (q2 : Int32) (q3 : Int32) (q4 : Int32) (h0 : Heap) (n0 : Nat) (v : Option Value) (h : Heap) (L : List Loc) : Prop := v = some (.int (own_fl q1 q2 q3 q4)) ∧ Fr n0 L ∧ h = h0
set_option maxRecDepth 65536 in
set_option maxHeartbeats 40000000 in
theorem rm4 (l : Launch) (Z : State) (a0 : Array Value) (hw : ∀ d ∈ tables_1, d.before a0 Z = true) (ws : List Jvm.Cond) (a1 : Addr) (q1 : Int32) (q2 : Int32) (q3 : Int32) (q4 : Int32) (h0 : Heap) (n0 : Nat) (Z0 : n0 ≤ h0.size) (Fordered : Fld Z h0 a1 "com/example/okra/okra/pack/Settings" "ordered" "Z" (.int q1)) (Foffsets : Fld Z h0 a1 "com/example/okra/okra/pack/Settings" "offsets" "Z" (.int q2)) (FvalueOrder : Fld Z h0 a1 "com/example/okra/okra/pack/Settings" "valueOrder" "Z" (.int q3)) (Fpersisted : Fld Z h0 a1 "com/example/okra/okra/pack/Settings" "persisted" "Z" (.int q4)) :
    MetFree l (⟨"com/example/okra/okra/pack/Settings", "flags", "()I"⟩ : MethodName) (head1 (Jvm.Cond.code (⟨"com/example/okra/okra/pack/Settings", "flags", "()I"⟩ : MethodName) prog_44_method_5_code 2 (some .int) :: ws) ({ frames := 0, cells := 0, slots := 0, locals := 0 } : Room)) (fun a U => a = #[(.ref a1)] ∧ Z.Warmed39 U.vm ∧ U.heap = h0) (fun _ _ _ _ _ => True) (fun _ U o U' => ∃ v L, o = .returned v ∧ Q4 Z a1 q1 q2 q3 q4 h0 n0 v U'.heap L ∧ FrameEnd U o U' L ({ frames := 0, cells := 0, slots := 0, locals := 0 } : Room).cells ({ frames := 0, cells := 0, slots := 0, locals := 0 } : Room).slots) := by
  refine MetFree.of_bodySF (plainFor_of_name pn_4) hisR ?_
  intro p e s m args below meth c s₁ Bd hml0 hP hK
  obtain ⟨rfl, hZ, hh⟩ := hP
  have hx := Bd.exec
  have hby := Bd.bytes
  have hml : c.maxLocals = 2 := hml0
  have hown : s.vm.findClass "com/example/okra/okra/pack/Settings" = some m.cls := findClass_of_methodNamed Bd.named
  have hnm := (name_of_methodNamed Bd.named Bd.method).1
  have X0 : Stand p l e ({ frames := 0, cells := 0, slots := 0, locals := 0 } : Room) s m #[(.ref a1)] below meth c s₁ [] 0 0 := Stand.of_body Bd
  have e0 : s₁.heap = h0 := by rw [← hh, Bd.state]; rfl
  have N0 := Fr.nil n0
  have pre0 : ∀ t, Steps p.tables e below (s₁.setTop (mkF m 0 #[.val (.ref a1), .unset] [])) t → Steps p.tables e below (s₁.setTop (entryFrame m #[(.ref a1)] 2)) t := fun t k => castTop (ef_4 m a1) k
  have mrg1 : ∃ (c1 : Int32) (T1 : State) (Lo1 : List Loc), Stand p l e ({ frames := 0, cells := 0, slots := 0, locals := 0 } : Room) s m #[(.ref a1)] below meth c T1 Lo1 0 0 ∧ Fr n0 Lo1 ∧ T1.heap = h0 ∧ (c1 = if q1 = 0 then 0 else 1) ∧ ∀ t, Steps p.tables e below (T1.setTop (mkF m 12 #[.val (.ref a1), .unset] [(.int c1)])) t → Steps p.tables e below (s₁.setTop (entryFrame m #[(.ref a1)] 2)) t := by
    have pre2 : ∀ t, Steps p.tables e below (s₁.setTop (mkF m 1 #[.val (.ref a1), .unset] [(.ref a1)])) t → Steps p.tables e below (s₁.setTop (entryFrame m #[(.ref a1)] 2)) t := by
      intro t k
      refine pre0 t ?_
      refine XS.aloadN X0.here hx rfl (hb hby d4_0) rfl rfl ?_
      show Steps p.tables e below (s₁.setTop (mkF m 1 #[.val (.ref a1), .unset] [(.ref a1)])) _
      exact k
    obtain ⟨T3, X3, e3, st3⟩ := getF X0 hx hZ hown (host := "") (Or.inl (hw _ (List.mem_of_getElem? (i := 14) rfl))) Via.refl e0 Fordered (g := (mkF m 1 #[.val (.ref a1), .unset] [(.ref a1)])) rfl rfl (hb hby d4_1)
    have pre4 : ∀ t, Steps p.tables e below (T3.setTop (mkF m 4 #[.val (.ref a1), .unset] [(.int q1)])) t → Steps p.tables e below (s₁.setTop (entryFrame m #[(.ref a1)] 2)) t := fun t k => pre2 t (st3 t k)
    by_cases hc4 : q1 = (0 : Int32)
    · skip
      have pre5 : ∀ t, Steps p.tables e below (T3.setTop (mkF m 12 #[.val (.ref a1), .unset] [(.int (0 : Int32))])) t → Steps p.tables e below (s₁.setTop (entryFrame m #[(.ref a1)] 2)) t := by
        intro t k
        refine pre4 t ?_
        refine XS.ifYes X3.here hx rfl (pc0 := 4) (pc' := 11) rfl (hb hby d4_4) rfl (XT.i0_eq_t hc4) (by decide) (by decide) ?_
        show Steps p.tables e below (T3.setTop (mkF m 11 #[.val (.ref a1), .unset] [])) _
        refine XS.iconst X3.here hx rfl (hb hby d4_11) ?_
        show Steps p.tables e below (T3.setTop (mkF m 12 #[.val (.ref a1), .unset] [(.int (0 : Int32))])) _
        exact k
      exact ⟨(0 : Int32), _, _, X3, N0, e3, (by first | (simp [own_bi, hc4]; done) | contradiction), pre5⟩
    · skip
      have pre6 : ∀ t, Steps p.tables e below (T3.setTop (mkF m 12 #[.val (.ref a1), .unset] [(.int (1 : Int32))])) t → Steps p.tables e below (s₁.setTop (entryFrame m #[(.ref a1)] 2)) t := by
        intro t k
        refine pre4 t ?_
        refine XS.ifNo X3.here hx rfl (hb hby d4_4) rfl (XT.i0_eq_f hc4) ?_
        show Steps p.tables e below (T3.setTop (mkF m 7 #[.val (.ref a1), .unset] [])) _
        refine XS.iconst X3.here hx rfl (hb hby d4_7) ?_
        show Steps p.tables e below (T3.setTop (mkF m 8 #[.val (.ref a1), .unset] [(.int (1 : Int32))])) _
        refine XS.goto X3.here hx rfl (pc0 := 8) (pc' := 12) rfl (hb hby d4_8) (by decide) (by decide) ?_
        show Steps p.tables e below (T3.setTop (mkF m 12 #[.val (.ref a1), .unset] [(.int (1 : Int32))])) _
        exact k
      exact ⟨(1 : Int32), _, _, X3, N0, e3, (by first | (simp [own_bi, hc4]; done) | contradiction), pre6⟩
  obtain ⟨c1, T1, Lo1, X1, N1, e1, hc1, pre1⟩ := mrg1
  have pre7 : ∀ t, Steps p.tables e below (T1.setTop (mkF m 14 #[.val (.ref a1), .val (.int c1)] [(.int c1)])) t → Steps p.tables e below (s₁.setTop (entryFrame m #[(.ref a1)] 2)) t := by
    intro t k
    refine pre1 t ?_
    refine XS.istoreN X1.here hx rfl (hb hby d4_12) rfl (l' := #[.val (.ref a1), .val (.int c1)]) rfl ?_
    show Steps p.tables e below (T1.setTop (mkF m 13 #[.val (.ref a1), .val (.int c1)] [])) _
    refine XS.iloadN X1.here hx rfl (hb hby d4_13) rfl ?_
    show Steps p.tables e below (T1.setTop (mkF m 14 #[.val (.ref a1), .val (.int c1)] [(.int c1)])) _
    exact k
  have mrg8 : ∃ (c2 : Int32) (T8 : State) (Lo8 : List Loc), Stand p l e ({ frames := 0, cells := 0, slots := 0, locals := 0 } : Room) s m #[(.ref a1)] below meth c T8 Lo8 0 0 ∧ Fr n0 Lo8 ∧ T8.heap = h0 ∧ (c2 = if q2 = 0 then 0 else 2) ∧ ∀ t, Steps p.tables e below (T8.setTop (mkF m 26 #[.val (.ref a1), .val (.int c1)] [(.int c2), (.int c1)])) t → Steps p.tables e below (s₁.setTop (entryFrame m #[(.ref a1)] 2)) t := by
    have pre9 : ∀ t, Steps p.tables e below (T1.setTop (mkF m 15 #[.val (.ref a1), .val (.int c1)] [(.ref a1), (.int c1)])) t → Steps p.tables e below (s₁.setTop (entryFrame m #[(.ref a1)] 2)) t := by
      intro t k
      refine pre7 t ?_
      refine XS.aloadN X1.here hx rfl (hb hby d4_14) rfl rfl ?_
      show Steps p.tables e below (T1.setTop (mkF m 15 #[.val (.ref a1), .val (.int c1)] [(.ref a1), (.int c1)])) _
      exact k
    obtain ⟨T10, X10, e10, st10⟩ := getF X1 hx hZ hown (host := "") (Or.inl (hw _ (List.mem_of_getElem? (i := 16) rfl))) Via.refl e1 Foffsets (g := (mkF m 15 #[.val (.ref a1), .val (.int c1)] [(.ref a1), (.int c1)])) rfl rfl (hb hby d4_15)
    have pre11 : ∀ t, Steps p.tables e below (T10.setTop (mkF m 18 #[.val (.ref a1), .val (.int c1)] [(.int q2), (.int c1)])) t → Steps p.tables e below (s₁.setTop (entryFrame m #[(.ref a1)] 2)) t := fun t k => pre9 t (st10 t k)
    by_cases hc18 : q2 = (0 : Int32)
    · skip
      have pre12 : ∀ t, Steps p.tables e below (T10.setTop (mkF m 26 #[.val (.ref a1), .val (.int c1)] [(.int (0 : Int32)), (.int c1)])) t → Steps p.tables e below (s₁.setTop (entryFrame m #[(.ref a1)] 2)) t := by
        intro t k
        refine pre11 t ?_
        refine XS.ifYes X10.here hx rfl (pc0 := 18) (pc' := 25) rfl (hb hby d4_18) rfl (XT.i0_eq_t hc18) (by decide) (by decide) ?_
        show Steps p.tables e below (T10.setTop (mkF m 25 #[.val (.ref a1), .val (.int c1)] [(.int c1)])) _
        refine XS.iconst X10.here hx rfl (hb hby d4_25) ?_
        show Steps p.tables e below (T10.setTop (mkF m 26 #[.val (.ref a1), .val (.int c1)] [(.int (0 : Int32)), (.int c1)])) _
        exact k
      exact ⟨(0 : Int32), _, _, X10, N1, e10, (by first | (simp [own_bi, hc18]; done) | contradiction), pre12⟩
    · skip
      have pre13 : ∀ t, Steps p.tables e below (T10.setTop (mkF m 26 #[.val (.ref a1), .val (.int c1)] [(.int (2 : Int32)), (.int c1)])) t → Steps p.tables e below (s₁.setTop (entryFrame m #[(.ref a1)] 2)) t := by
        intro t k
        refine pre11 t ?_
        refine XS.ifNo X10.here hx rfl (hb hby d4_18) rfl (XT.i0_eq_f hc18) ?_
        show Steps p.tables e below (T10.setTop (mkF m 21 #[.val (.ref a1), .val (.int c1)] [(.int c1)])) _
        refine XS.iconst X10.here hx rfl (hb hby d4_21) ?_
        show Steps p.tables e below (T10.setTop (mkF m 22 #[.val (.ref a1), .val (.int c1)] [(.int (2 : Int32)), (.int c1)])) _
        refine XS.goto X10.here hx rfl (pc0 := 22) (pc' := 26) rfl (hb hby d4_22) (by decide) (by decide) ?_
        show Steps p.tables e below (T10.setTop (mkF m 26 #[.val (.ref a1), .val (.int c1)] [(.int (2 : Int32)), (.int c1)])) _
        exact k
      exact ⟨(2 : Int32), _, _, X10, N1, e10, (by first | (simp [own_bi, hc18]; done) | contradiction), pre13⟩
  obtain ⟨c2, T8, Lo8, X8, N8, e8, hc2, pre8⟩ := mrg8
  have pre14 : ∀ t, Steps p.tables e below (T8.setTop (mkF m 29 #[.val (.ref a1), .val (.int (c1 ||| c2))] [(.int (c1 ||| c2))])) t → Steps p.tables e below (s₁.setTop (entryFrame m #[(.ref a1)] 2)) t := by
    intro t k
    refine pre8 t ?_
    refine XT.ior X8.here hx rfl (hb hby d4_26) rfl ?_
    show Steps p.tables e below (T8.setTop (mkF m 27 #[.val (.ref a1), .val (.int c1)] [(.int (c1 ||| c2))])) _
    refine XS.istoreN X8.here hx rfl (hb hby d4_27) rfl (l' := #[.val (.ref a1), .val (.int (c1 ||| c2))]) rfl ?_
    show Steps p.tables e below (T8.setTop (mkF m 28 #[.val (.ref a1), .val (.int (c1 ||| c2))] [])) _
    refine XS.iloadN X8.here hx rfl (hb hby d4_28) rfl ?_
    show Steps p.tables e below (T8.setTop (mkF m 29 #[.val (.ref a1), .val (.int (c1 ||| c2))] [(.int (c1 ||| c2))])) _
    exact k
  have mrg15 : ∃ (c3 : Int32) (T15 : State) (Lo15 : List Loc), Stand p l e ({ frames := 0, cells := 0, slots := 0, locals := 0 } : Room) s m #[(.ref a1)] below meth c T15 Lo15 0 0 ∧ Fr n0 Lo15 ∧ T15.heap = h0 ∧ (c3 = if q3 = 0 then 0 else 4) ∧ ∀ t, Steps p.tables e below (T15.setTop (mkF m 41 #[.val (.ref a1), .val (.int (c1 ||| c2))] [(.int c3), (.int (c1 ||| c2))])) t → Steps p.tables e below (s₁.setTop (entryFrame m #[(.ref a1)] 2)) t := by
    have pre16 : ∀ t, Steps p.tables e below (T8.setTop (mkF m 30 #[.val (.ref a1), .val (.int (c1 ||| c2))] [(.ref a1), (.int (c1 ||| c2))])) t → Steps p.tables e below (s₁.setTop (entryFrame m #[(.ref a1)] 2)) t := by
      intro t k
      refine pre14 t ?_
      refine XS.aloadN X8.here hx rfl (hb hby d4_29) rfl rfl ?_
      show Steps p.tables e below (T8.setTop (mkF m 30 #[.val (.ref a1), .val (.int (c1 ||| c2))] [(.ref a1), (.int (c1 ||| c2))])) _
      exact k
    obtain ⟨T17, X17, e17, st17⟩ := getF X8 hx hZ hown (host := "") (Or.inl (hw _ (List.mem_of_getElem? (i := 18) rfl))) Via.refl e8 FvalueOrder (g := (mkF m 30 #[.val (.ref a1), .val (.int (c1 ||| c2))] [(.ref a1), (.int (c1 ||| c2))])) rfl rfl (hb hby d4_30)
    have pre18 : ∀ t, Steps p.tables e below (T17.setTop (mkF m 33 #[.val (.ref a1), .val (.int (c1 ||| c2))] [(.int q3), (.int (c1 ||| c2))])) t → Steps p.tables e below (s₁.setTop (entryFrame m #[(.ref a1)] 2)) t := fun t k => pre16 t (st17 t k)
    by_cases hc33 : q3 = (0 : Int32)
    · skip
      have pre19 : ∀ t, Steps p.tables e below (T17.setTop (mkF m 41 #[.val (.ref a1), .val (.int (c1 ||| c2))] [(.int (0 : Int32)), (.int (c1 ||| c2))])) t → Steps p.tables e below (s₁.setTop (entryFrame m #[(.ref a1)] 2)) t := by
        intro t k
        refine pre18 t ?_
        refine XS.ifYes X17.here hx rfl (pc0 := 33) (pc' := 40) rfl (hb hby d4_33) rfl (XT.i0_eq_t hc33) (by decide) (by decide) ?_
        show Steps p.tables e below (T17.setTop (mkF m 40 #[.val (.ref a1), .val (.int (c1 ||| c2))] [(.int (c1 ||| c2))])) _
        refine XS.iconst X17.here hx rfl (hb hby d4_40) ?_
        show Steps p.tables e below (T17.setTop (mkF m 41 #[.val (.ref a1), .val (.int (c1 ||| c2))] [(.int (0 : Int32)), (.int (c1 ||| c2))])) _
        exact k
      exact ⟨(0 : Int32), _, _, X17, N8, e17, (by first | (simp [own_bi, hc33]; done) | contradiction), pre19⟩
    · skip
      have pre20 : ∀ t, Steps p.tables e below (T17.setTop (mkF m 41 #[.val (.ref a1), .val (.int (c1 ||| c2))] [(.int (4 : Int32)), (.int (c1 ||| c2))])) t → Steps p.tables e below (s₁.setTop (entryFrame m #[(.ref a1)] 2)) t := by
        intro t k
        refine pre18 t ?_
        refine XS.ifNo X17.here hx rfl (hb hby d4_33) rfl (XT.i0_eq_f hc33) ?_
        show Steps p.tables e below (T17.setTop (mkF m 36 #[.val (.ref a1), .val (.int (c1 ||| c2))] [(.int (c1 ||| c2))])) _
        refine XS.iconst X17.here hx rfl (hb hby d4_36) ?_
        show Steps p.tables e below (T17.setTop (mkF m 37 #[.val (.ref a1), .val (.int (c1 ||| c2))] [(.int (4 : Int32)), (.int (c1 ||| c2))])) _
        refine XS.goto X17.here hx rfl (pc0 := 37) (pc' := 41) rfl (hb hby d4_37) (by decide) (by decide) ?_
        show Steps p.tables e below (T17.setTop (mkF m 41 #[.val (.ref a1), .val (.int (c1 ||| c2))] [(.int (4 : Int32)), (.int (c1 ||| c2))])) _
        exact k
      exact ⟨(4 : Int32), _, _, X17, N8, e17, (by first | (simp [own_bi, hc33]; done) | contradiction), pre20⟩
  obtain ⟨c3, T15, Lo15, X15, N15, e15, hc3, pre15⟩ := mrg15
  have pre21 : ∀ t, Steps p.tables e below (T15.setTop (mkF m 44 #[.val (.ref a1), .val (.int ((c1 ||| c2) ||| c3))] [(.int ((c1 ||| c2) ||| c3))])) t → Steps p.tables e below (s₁.setTop (entryFrame m #[(.ref a1)] 2)) t := by
    intro t k
    refine pre15 t ?_
    refine XT.ior X15.here hx rfl (hb hby d4_41) rfl ?_
    show Steps p.tables e below (T15.setTop (mkF m 42 #[.val (.ref a1), .val (.int (c1 ||| c2))] [(.int ((c1 ||| c2) ||| c3))])) _
    refine XS.istoreN X15.here hx rfl (hb hby d4_42) rfl (l' := #[.val (.ref a1), .val (.int ((c1 ||| c2) ||| c3))]) rfl ?_
    show Steps p.tables e below (T15.setTop (mkF m 43 #[.val (.ref a1), .val (.int ((c1 ||| c2) ||| c3))] [])) _
    refine XS.iloadN X15.here hx rfl (hb hby d4_43) rfl ?_
    show Steps p.tables e below (T15.setTop (mkF m 44 #[.val (.ref a1), .val (.int ((c1 ||| c2) ||| c3))] [(.int ((c1 ||| c2) ||| c3))])) _
    exact k
  have mrg22 : ∃ (c4 : Int32) (T22 : State) (Lo22 : List Loc), Stand p l e ({ frames := 0, cells := 0, slots := 0, locals := 0 } : Room) s m #[(.ref a1)] below meth c T22 Lo22 0 0 ∧ Fr n0 Lo22 ∧ T22.heap = h0 ∧ (c4 = if q4 = 0 then 0 else 8) ∧ ∀ t, Steps p.tables e below (T22.setTop (mkF m 57 #[.val (.ref a1), .val (.int ((c1 ||| c2) ||| c3))] [(.int c4), (.int ((c1 ||| c2) ||| c3))])) t → Steps p.tables e below (s₁.setTop (entryFrame m #[(.ref a1)] 2)) t := by
    have pre23 : ∀ t, Steps p.tables e below (T15.setTop (mkF m 45 #[.val (.ref a1), .val (.int ((c1 ||| c2) ||| c3))] [(.ref a1), (.int ((c1 ||| c2) ||| c3))])) t → Steps p.tables e below (s₁.setTop (entryFrame m #[(.ref a1)] 2)) t := by
      intro t k
      refine pre21 t ?_
      refine XS.aloadN X15.here hx rfl (hb hby d4_44) rfl rfl ?_
      show Steps p.tables e below (T15.setTop (mkF m 45 #[.val (.ref a1), .val (.int ((c1 ||| c2) ||| c3))] [(.ref a1), (.int ((c1 ||| c2) ||| c3))])) _
      exact k
    obtain ⟨T24, X24, e24, st24⟩ := getF X15 hx hZ hown (host := "") (Or.inl (hw _ (List.mem_of_getElem? (i := 20) rfl))) Via.refl e15 Fpersisted (g := (mkF m 45 #[.val (.ref a1), .val (.int ((c1 ||| c2) ||| c3))] [(.ref a1), (.int ((c1 ||| c2) ||| c3))])) rfl rfl (hb hby d4_45)
    have pre25 : ∀ t, Steps p.tables e below (T24.setTop (mkF m 48 #[.val (.ref a1), .val (.int ((c1 ||| c2) ||| c3))] [(.int q4), (.int ((c1 ||| c2) ||| c3))])) t → Steps p.tables e below (s₁.setTop (entryFrame m #[(.ref a1)] 2)) t := fun t k => pre23 t (st24 t k)
    by_cases hc48 : q4 = (0 : Int32)
    · skip
      have pre26 : ∀ t, Steps p.tables e below (T24.setTop (mkF m 57 #[.val (.ref a1), .val (.int ((c1 ||| c2) ||| c3))] [(.int (0 : Int32)), (.int ((c1 ||| c2) ||| c3))])) t → Steps p.tables e below (s₁.setTop (entryFrame m #[(.ref a1)] 2)) t := by
        intro t k
        refine pre25 t ?_
        refine XS.ifYes X24.here hx rfl (pc0 := 48) (pc' := 56) rfl (hb hby d4_48) rfl (XT.i0_eq_t hc48) (by decide) (by decide) ?_
        show Steps p.tables e below (T24.setTop (mkF m 56 #[.val (.ref a1), .val (.int ((c1 ||| c2) ||| c3))] [(.int ((c1 ||| c2) ||| c3))])) _
        refine XS.iconst X24.here hx rfl (hb hby d4_56) ?_
        show Steps p.tables e below (T24.setTop (mkF m 57 #[.val (.ref a1), .val (.int ((c1 ||| c2) ||| c3))] [(.int (0 : Int32)), (.int ((c1 ||| c2) ||| c3))])) _
        exact k
      exact ⟨(0 : Int32), _, _, X24, N15, e24, (by first | (simp [own_bi, hc48]; done) | contradiction), pre26⟩
    · skip
      have pre27 : ∀ t, Steps p.tables e below (T24.setTop (mkF m 57 #[.val (.ref a1), .val (.int ((c1 ||| c2) ||| c3))] [(.int (8 : Int32)), (.int ((c1 ||| c2) ||| c3))])) t → Steps p.tables e below (s₁.setTop (entryFrame m #[(.ref a1)] 2)) t := by
        intro t k
        refine pre25 t ?_
        refine XS.ifNo X24.here hx rfl (hb hby d4_48) rfl (XT.i0_eq_f hc48) ?_
        show Steps p.tables e below (T24.setTop (mkF m 51 #[.val (.ref a1), .val (.int ((c1 ||| c2) ||| c3))] [(.int ((c1 ||| c2) ||| c3))])) _
        refine XS.bipush X24.here hx rfl (hb hby d4_51) ?_
        show Steps p.tables e below (T24.setTop (mkF m 53 #[.val (.ref a1), .val (.int ((c1 ||| c2) ||| c3))] [(.int (8 : Int32)), (.int ((c1 ||| c2) ||| c3))])) _
        refine XS.goto X24.here hx rfl (pc0 := 53) (pc' := 57) rfl (hb hby d4_53) (by decide) (by decide) ?_
        show Steps p.tables e below (T24.setTop (mkF m 57 #[.val (.ref a1), .val (.int ((c1 ||| c2) ||| c3))] [(.int (8 : Int32)), (.int ((c1 ||| c2) ||| c3))])) _
        exact k
      exact ⟨(8 : Int32), _, _, X24, N15, e24, (by first | (simp [own_bi, hc48]; done) | contradiction), pre27⟩
  obtain ⟨c4, T22, Lo22, X22, N22, e22, hc4, pre22⟩ := mrg22
  have hres : (((c1 ||| c2) ||| c3) ||| c4) = own_fl q1 q2 q3 q4 := by subst hc1 hc2 hc3 hc4; rfl
  have pre28 : ∀ t, Steps p.tables e below (T22.setTop (mkF m 58 #[.val (.ref a1), .val (.int ((c1 ||| c2) ||| c3))] [(.int (((c1 ||| c2) ||| c3) ||| c4))])) t → Steps p.tables e below (s₁.setTop (entryFrame m #[(.ref a1)] 2)) t := by
    intro t k
    refine pre22 t ?_
    refine XT.ior X22.here hx rfl (hb hby d4_57) rfl ?_
    show Steps p.tables e below (T22.setTop (mkF m 58 #[.val (.ref a1), .val (.int ((c1 ||| c2) ||| c3))] [(.int (((c1 ||| c2) ||| c3) ||| c4))])) _
    exact k
  rw [hres] at pre28
  obtain ⟨fs, hr, hrun, hended, hW, hsame⟩ := X22.leave (v := some (.int (own_fl q1 q2 q3 q4))) (fun h => by rw [Bd.returns] at h; cases h)
  refine ⟨_, _, pre28 _ ?_, hrun, hended, _, _, rfl, ?_, ⟨_, rfl⟩, hW, hsame.mono (by decide) (by decide)⟩
  · exact retOut X22 hx Bd.returns rfl (Or.inl ⟨rfl, by simp, _, rfl⟩) (hb hby d4_58) hr
  · show Q4 Z a1 q1 q2 q3 q4 h0 n0 _ T22.heap _
    rw [e22]
    exact ⟨rfl, N22, rfl⟩
theorem pd_ini : parseMethodDescriptor "(ZZZZ)V" = some ⟨[.boolean, .boolean, .boolean, .boolean], none⟩ := by decide +kernel
theorem pd_fl : parseMethodDescriptor "()I" = some ⟨[], some .int⟩ := by decide +kernel
theorem pn_law : plainName "com/example/okra/okra/pack/SettingsFlagsPinLaw" = true := by first | (simp [plainName, overriddenIn]; done) | decide +kernel
theorem ef_law (m : MethodId) (p1 : Int32) : entryFrame m #[(.int p1)] maxLocals = mkF m 0 #[.val (.int p1), .unset, .unset] [] := by first | (simp [entryFrame, mkF, argsToLocals, Value.category, maxLocals]; done) | rfl
def Qlaw (Z : State) (p1 : Int32) (h0 : Heap) (n0 : Nat) (v : Option Value) (h : Heap) (L : List Loc) : Prop := v = some (.int (1 : Int32)) ∧ Fr n0 L
set_option maxRecDepth 65536 in
set_option maxHeartbeats 40000000 in
theorem rmlaw (l : Launch) (Z : State) (a0 : Array Value) (hw : ∀ d ∈ tables_1, d.before a0 Z = true) (ws : List Jvm.Cond) (p1 : Int32) (h0 : Heap) (n0 : Nat) (Z0 : n0 ≤ h0.size) :
    MetFree l x (head1 (Jvm.Cond.code x code maxLocals ret :: ws) room_1) (fun a U => a = #[(.int p1)] ∧ Z.Warmed39 U.vm ∧ U.heap = h0) (fun _ _ _ _ _ => True) (fun _ U o U' => ∃ v L, o = .returned v ∧ Qlaw Z p1 h0 n0 v U'.heap L ∧ FrameEnd U o U' L room_1.cells room_1.slots) := by
  refine MetFree.of_bodySF (plainFor_of_name pn_law) hisR ?_
  intro p e s m args below meth c s₁ Bd hml0 hP hK
  obtain ⟨rfl, hZ, hh⟩ := hP
  have hx := Bd.exec
  have hby := Bd.bytes
  have hml : c.maxLocals = 3 := hml0
  have hown : s.vm.findClass "com/example/okra/okra/pack/SettingsFlagsPinLaw" = some m.cls := findClass_of_methodNamed Bd.named
  have hnm := (name_of_methodNamed Bd.named Bd.method).1
  have X0 : Stand p l e room_1 s m #[(.int p1)] below meth c s₁ [] 0 0 := Stand.of_body Bd
  have e0 : s₁.heap = h0 := by rw [← hh, Bd.state]; rfl
  have N0 := Fr.nil n0
  have pre0 : ∀ t, Steps p.tables e below (s₁.setTop (mkF m 0 #[.val (.int p1), .unset, .unset] [])) t → Steps p.tables e below (s₁.setTop (entryFrame m #[(.int p1)] maxLocals)) t := fun t k => castTop (ef_law m p1) k
  have pre1 : ∀ t, Steps p.tables e below (s₁.setTop (mkF m 5 #[.val (.int p1), .val (.int (p1 &&& (15 : Int32))), .unset] [])) t → Steps p.tables e below (s₁.setTop (entryFrame m #[(.int p1)] maxLocals)) t := by
    intro t k
    refine pre0 t ?_
    refine XS.iloadN X0.here hx rfl (hb hby at_0) rfl ?_
    show Steps p.tables e below (s₁.setTop (mkF m 1 #[.val (.int p1), .unset, .unset] [(.int p1)])) _
    refine XS.bipush X0.here hx rfl (hb hby at_1) ?_
    show Steps p.tables e below (s₁.setTop (mkF m 3 #[.val (.int p1), .unset, .unset] [(.int (15 : Int32)), (.int p1)])) _
    refine XS.iand X0.here hx rfl (hb hby at_3) rfl ?_
    show Steps p.tables e below (s₁.setTop (mkF m 4 #[.val (.int p1), .unset, .unset] [(.int (p1 &&& (15 : Int32)))])) _
    refine XS.istoreN X0.here hx rfl (hb hby at_4) rfl (l' := #[.val (.int p1), .val (.int (p1 &&& (15 : Int32))), .unset]) rfl ?_
    show Steps p.tables e below (s₁.setTop (mkF m 5 #[.val (.int p1), .val (.int (p1 &&& (15 : Int32))), .unset] [])) _
    exact k
  have mrg2 : ∃ (f : Int32) (T2 : State) (Lo2 : List Loc), Stand p l e room_1 s m #[(.int p1)] below meth c T2 Lo2 0 0 ∧ Fr n0 Lo2 ∧ T2.heap = h0 ∧ (f = own_f (p1 &&& 15)) ∧ ∀ t, Steps p.tables e below (T2.setTop (mkF m 15 #[.val (.int p1), .val (.int f), .unset] [])) t → Steps p.tables e below (s₁.setTop (entryFrame m #[(.int p1)] maxLocals)) t := by
    have pre3 : ∀ t, Steps p.tables e below (s₁.setTop (mkF m 8 #[.val (.int p1), .val (.int (p1 &&& (15 : Int32))), .unset] [(.int ((p1 &&& (15 : Int32)) &&& (2 : Int32)))])) t → Steps p.tables e below (s₁.setTop (entryFrame m #[(.int p1)] maxLocals)) t := by
      intro t k
      refine pre1 t ?_
      refine XS.iloadN X0.here hx rfl (hb hby at_5) rfl ?_
      show Steps p.tables e below (s₁.setTop (mkF m 6 #[.val (.int p1), .val (.int (p1 &&& (15 : Int32))), .unset] [(.int (p1 &&& (15 : Int32)))])) _
      refine XS.iconst X0.here hx rfl (hb hby at_6) ?_
      show Steps p.tables e below (s₁.setTop (mkF m 7 #[.val (.int p1), .val (.int (p1 &&& (15 : Int32))), .unset] [(.int (2 : Int32)), (.int (p1 &&& (15 : Int32)))])) _
      refine XS.iand X0.here hx rfl (hb hby at_7) rfl ?_
      show Steps p.tables e below (s₁.setTop (mkF m 8 #[.val (.int p1), .val (.int (p1 &&& (15 : Int32))), .unset] [(.int ((p1 &&& (15 : Int32)) &&& (2 : Int32)))])) _
      exact k
    by_cases hc8 : ((p1 &&& (15 : Int32)) &&& (2 : Int32)) = (0 : Int32)
    · skip
      have pre4 : ∀ t, Steps p.tables e below (s₁.setTop (mkF m 15 #[.val (.int p1), .val (.int ((p1 &&& (15 : Int32)) &&& (1 : Int32))), .unset] [])) t → Steps p.tables e below (s₁.setTop (entryFrame m #[(.int p1)] maxLocals)) t := by
        intro t k
        refine pre3 t ?_
        refine XS.ifNo X0.here hx rfl (hb hby at_8) rfl (XT.i0_ne_f hc8) ?_
        show Steps p.tables e below (s₁.setTop (mkF m 11 #[.val (.int p1), .val (.int (p1 &&& (15 : Int32))), .unset] [])) _
        refine XS.iloadN X0.here hx rfl (hb hby at_11) rfl ?_
        show Steps p.tables e below (s₁.setTop (mkF m 12 #[.val (.int p1), .val (.int (p1 &&& (15 : Int32))), .unset] [(.int (p1 &&& (15 : Int32)))])) _
        refine XS.iconst X0.here hx rfl (hb hby at_12) ?_
        show Steps p.tables e below (s₁.setTop (mkF m 13 #[.val (.int p1), .val (.int (p1 &&& (15 : Int32))), .unset] [(.int (1 : Int32)), (.int (p1 &&& (15 : Int32)))])) _
        refine XS.iand X0.here hx rfl (hb hby at_13) rfl ?_
        show Steps p.tables e below (s₁.setTop (mkF m 14 #[.val (.int p1), .val (.int (p1 &&& (15 : Int32))), .unset] [(.int ((p1 &&& (15 : Int32)) &&& (1 : Int32)))])) _
        refine XS.istoreN X0.here hx rfl (hb hby at_14) rfl (l' := #[.val (.int p1), .val (.int ((p1 &&& (15 : Int32)) &&& (1 : Int32))), .unset]) rfl ?_
        show Steps p.tables e below (s₁.setTop (mkF m 15 #[.val (.int p1), .val (.int ((p1 &&& (15 : Int32)) &&& (1 : Int32))), .unset] [])) _
        exact k
      exact ⟨((p1 &&& (15 : Int32)) &&& (1 : Int32)), _, _, X0, N0, e0, (by simp [own_f, hc8]), pre4⟩
    · skip
      have pre5 : ∀ t, Steps p.tables e below (s₁.setTop (mkF m 15 #[.val (.int p1), .val (.int (p1 &&& (15 : Int32))), .unset] [])) t → Steps p.tables e below (s₁.setTop (entryFrame m #[(.int p1)] maxLocals)) t := by
        intro t k
        refine pre3 t ?_
        refine XS.ifYes X0.here hx rfl (pc0 := 8) (pc' := 15) rfl (hb hby at_8) rfl (XT.i0_ne_t hc8) (by decide) (by decide) ?_
        show Steps p.tables e below (s₁.setTop (mkF m 15 #[.val (.int p1), .val (.int (p1 &&& (15 : Int32))), .unset] [])) _
        exact k
      exact ⟨(p1 &&& (15 : Int32)), _, _, X0, N0, e0, (by simp [own_f, hc8]), pre5⟩
  obtain ⟨f, T2, Lo2, X2, N2, e2, hf, pre2⟩ := mrg2
  obtain ⟨T7, h7, X7, e7, E7, A7, D7, -, st7⟩ := newO X2 hx hZ hown (hw _ (List.mem_of_getElem? (i := 0) rfl)) (hw _ (List.mem_of_getElem? (i := 1) rfl)) (hw _ (List.mem_of_getElem? (i := 2) rfl)) e2 (g := (mkF m 15 #[.val (.int p1), .val (.int f), .unset] [])) rfl (hb hby at_15) (by decide) (by decide)
  obtain ⟨b0, gz7⟩ : ∃ z, z = h0.size := ⟨_, rfl⟩
  rw [← gz7] at A7 D7 st7
  have g_b0 : n0 ≤ b0 := Nat.le_trans Z0 (Nat.le_of_eq gz7.symm)
  have F_ordered_b0 : Fld Z h7 b0 "com/example/okra/okra/pack/Settings" "ordered" "Z" (.int (0 : Int32)) := D7 (Or.inr (hw _ (List.mem_of_getElem? (i := 15) rfl))) (ty := .boolean) (by decide)
  have F_offsets_b0 : Fld Z h7 b0 "com/example/okra/okra/pack/Settings" "offsets" "Z" (.int (0 : Int32)) := D7 (Or.inr (hw _ (List.mem_of_getElem? (i := 17) rfl))) (ty := .boolean) (by decide)
  have F_valueOrder_b0 : Fld Z h7 b0 "com/example/okra/okra/pack/Settings" "valueOrder" "Z" (.int (0 : Int32)) := D7 (Or.inr (hw _ (List.mem_of_getElem? (i := 19) rfl))) (ty := .boolean) (by decide)
  have F_persisted_b0 : Fld Z h7 b0 "com/example/okra/okra/pack/Settings" "persisted" "Z" (.int (0 : Int32)) := D7 (Or.inr (hw _ (List.mem_of_getElem? (i := 21) rfl))) (ty := .boolean) (by decide)
  have pre8 : ∀ t, Steps p.tables e below (T7.setTop (mkF m 18 #[.val (.int p1), .val (.int f), .unset] [(.ref b0)])) t → Steps p.tables e below (s₁.setTop (entryFrame m #[(.int p1)] maxLocals)) t := fun t k => pre2 t (st7 t k)
  have Z9 : n0 ≤ h7.size := (Nat.le_trans Z0 E7.1)
  have pre10 : ∀ t, Steps p.tables e below (T7.setTop (mkF m 19 #[.val (.int p1), .val (.int f), .unset] [(.ref b0), (.ref b0)])) t → Steps p.tables e below (s₁.setTop (entryFrame m #[(.int p1)] maxLocals)) t := by
    intro t k
    refine pre8 t ?_
    refine XS.dup X7.here hx rfl (hb hby at_18) rfl rfl ?_
    show Steps p.tables e below (T7.setTop (mkF m 19 #[.val (.int p1), .val (.int f), .unset] [(.ref b0), (.ref b0)])) _
    exact k
  have mrg11 : ∃ (b1 : Int32) (T11 : State) (Lo11 : List Loc), Stand p l e room_1 s m #[(.int p1)] below meth c T11 Lo11 1 4 ∧ Fr n0 Lo11 ∧ T11.heap = h7 ∧ (b1 = own_bi (¬ (f &&& 1) = 0)) ∧ ∀ t, Steps p.tables e below (T11.setTop (mkF m 30 #[.val (.int p1), .val (.int f), .unset] [(.int b1), (.ref b0), (.ref b0)])) t → Steps p.tables e below (s₁.setTop (entryFrame m #[(.int p1)] maxLocals)) t := by
    have pre12 : ∀ t, Steps p.tables e below (T7.setTop (mkF m 22 #[.val (.int p1), .val (.int f), .unset] [(.int (f &&& (1 : Int32))), (.ref b0), (.ref b0)])) t → Steps p.tables e below (s₁.setTop (entryFrame m #[(.int p1)] maxLocals)) t := by
      intro t k
      refine pre10 t ?_
      refine XS.iloadN X7.here hx rfl (hb hby at_19) rfl ?_
      show Steps p.tables e below (T7.setTop (mkF m 20 #[.val (.int p1), .val (.int f), .unset] [(.int f), (.ref b0), (.ref b0)])) _
      refine XS.iconst X7.here hx rfl (hb hby at_20) ?_
      show Steps p.tables e below (T7.setTop (mkF m 21 #[.val (.int p1), .val (.int f), .unset] [(.int (1 : Int32)), (.int f), (.ref b0), (.ref b0)])) _
      refine XS.iand X7.here hx rfl (hb hby at_21) rfl ?_
      show Steps p.tables e below (T7.setTop (mkF m 22 #[.val (.int p1), .val (.int f), .unset] [(.int (f &&& (1 : Int32))), (.ref b0), (.ref b0)])) _
      exact k
    by_cases hc22 : (f &&& (1 : Int32)) = (0 : Int32)
    · skip
      have pre13 : ∀ t, Steps p.tables e below (T7.setTop (mkF m 30 #[.val (.int p1), .val (.int f), .unset] [(.int (0 : Int32)), (.ref b0), (.ref b0)])) t → Steps p.tables e below (s₁.setTop (entryFrame m #[(.int p1)] maxLocals)) t := by
        intro t k
        refine pre12 t ?_
        refine XS.ifYes X7.here hx rfl (pc0 := 22) (pc' := 29) rfl (hb hby at_22) rfl (XT.i0_eq_t hc22) (by decide) (by decide) ?_
        show Steps p.tables e below (T7.setTop (mkF m 29 #[.val (.int p1), .val (.int f), .unset] [(.ref b0), (.ref b0)])) _
        refine XS.iconst X7.here hx rfl (hb hby at_29) ?_
        show Steps p.tables e below (T7.setTop (mkF m 30 #[.val (.int p1), .val (.int f), .unset] [(.int (0 : Int32)), (.ref b0), (.ref b0)])) _
        exact k
      exact ⟨(0 : Int32), _, _, X7, N2, e7, (by first | (simp [own_bi, hc22]; done) | contradiction), pre13⟩
    · skip
      have pre14 : ∀ t, Steps p.tables e below (T7.setTop (mkF m 30 #[.val (.int p1), .val (.int f), .unset] [(.int (1 : Int32)), (.ref b0), (.ref b0)])) t → Steps p.tables e below (s₁.setTop (entryFrame m #[(.int p1)] maxLocals)) t := by
        intro t k
        refine pre12 t ?_
        refine XS.ifNo X7.here hx rfl (hb hby at_22) rfl (XT.i0_eq_f hc22) ?_
        show Steps p.tables e below (T7.setTop (mkF m 25 #[.val (.int p1), .val (.int f), .unset] [(.ref b0), (.ref b0)])) _
        refine XS.iconst X7.here hx rfl (hb hby at_25) ?_
        show Steps p.tables e below (T7.setTop (mkF m 26 #[.val (.int p1), .val (.int f), .unset] [(.int (1 : Int32)), (.ref b0), (.ref b0)])) _
        refine XS.goto X7.here hx rfl (pc0 := 26) (pc' := 30) rfl (hb hby at_26) (by decide) (by decide) ?_
        show Steps p.tables e below (T7.setTop (mkF m 30 #[.val (.int p1), .val (.int f), .unset] [(.int (1 : Int32)), (.ref b0), (.ref b0)])) _
        exact k
      exact ⟨(1 : Int32), _, _, X7, N2, e7, (by first | (simp [own_bi, hc22]; done) | contradiction), pre14⟩
  obtain ⟨b1, T11, Lo11, X11, N11, e11, hb1, pre11⟩ := mrg11
  have mrg15 : ∃ (b2 : Int32) (T15 : State) (Lo15 : List Loc), Stand p l e room_1 s m #[(.int p1)] below meth c T15 Lo15 1 4 ∧ Fr n0 Lo15 ∧ T15.heap = h7 ∧ (b2 = own_bi (¬ (f &&& 2) = 0)) ∧ ∀ t, Steps p.tables e below (T15.setTop (mkF m 41 #[.val (.int p1), .val (.int f), .unset] [(.int b2), (.int b1), (.ref b0), (.ref b0)])) t → Steps p.tables e below (s₁.setTop (entryFrame m #[(.int p1)] maxLocals)) t := by
    have pre16 : ∀ t, Steps p.tables e below (T11.setTop (mkF m 33 #[.val (.int p1), .val (.int f), .unset] [(.int (f &&& (2 : Int32))), (.int b1), (.ref b0), (.ref b0)])) t → Steps p.tables e below (s₁.setTop (entryFrame m #[(.int p1)] maxLocals)) t := by
      intro t k
      refine pre11 t ?_
      refine XS.iloadN X11.here hx rfl (hb hby at_30) rfl ?_
      show Steps p.tables e below (T11.setTop (mkF m 31 #[.val (.int p1), .val (.int f), .unset] [(.int f), (.int b1), (.ref b0), (.ref b0)])) _
      refine XS.iconst X11.here hx rfl (hb hby at_31) ?_
      show Steps p.tables e below (T11.setTop (mkF m 32 #[.val (.int p1), .val (.int f), .unset] [(.int (2 : Int32)), (.int f), (.int b1), (.ref b0), (.ref b0)])) _
      refine XS.iand X11.here hx rfl (hb hby at_32) rfl ?_
      show Steps p.tables e below (T11.setTop (mkF m 33 #[.val (.int p1), .val (.int f), .unset] [(.int (f &&& (2 : Int32))), (.int b1), (.ref b0), (.ref b0)])) _
      exact k
    by_cases hc33 : (f &&& (2 : Int32)) = (0 : Int32)
    · skip
      have pre17 : ∀ t, Steps p.tables e below (T11.setTop (mkF m 41 #[.val (.int p1), .val (.int f), .unset] [(.int (0 : Int32)), (.int b1), (.ref b0), (.ref b0)])) t → Steps p.tables e below (s₁.setTop (entryFrame m #[(.int p1)] maxLocals)) t := by
        intro t k
        refine pre16 t ?_
        refine XS.ifYes X11.here hx rfl (pc0 := 33) (pc' := 40) rfl (hb hby at_33) rfl (XT.i0_eq_t hc33) (by decide) (by decide) ?_
        show Steps p.tables e below (T11.setTop (mkF m 40 #[.val (.int p1), .val (.int f), .unset] [(.int b1), (.ref b0), (.ref b0)])) _
        refine XS.iconst X11.here hx rfl (hb hby at_40) ?_
        show Steps p.tables e below (T11.setTop (mkF m 41 #[.val (.int p1), .val (.int f), .unset] [(.int (0 : Int32)), (.int b1), (.ref b0), (.ref b0)])) _
        exact k
      exact ⟨(0 : Int32), _, _, X11, N11, e11, (by first | (simp [own_bi, hc33]; done) | contradiction), pre17⟩
    · skip
      have pre18 : ∀ t, Steps p.tables e below (T11.setTop (mkF m 41 #[.val (.int p1), .val (.int f), .unset] [(.int (1 : Int32)), (.int b1), (.ref b0), (.ref b0)])) t → Steps p.tables e below (s₁.setTop (entryFrame m #[(.int p1)] maxLocals)) t := by
        intro t k
        refine pre16 t ?_
        refine XS.ifNo X11.here hx rfl (hb hby at_33) rfl (XT.i0_eq_f hc33) ?_
        show Steps p.tables e below (T11.setTop (mkF m 36 #[.val (.int p1), .val (.int f), .unset] [(.int b1), (.ref b0), (.ref b0)])) _
        refine XS.iconst X11.here hx rfl (hb hby at_36) ?_
        show Steps p.tables e below (T11.setTop (mkF m 37 #[.val (.int p1), .val (.int f), .unset] [(.int (1 : Int32)), (.int b1), (.ref b0), (.ref b0)])) _
        refine XS.goto X11.here hx rfl (pc0 := 37) (pc' := 41) rfl (hb hby at_37) (by decide) (by decide) ?_
        show Steps p.tables e below (T11.setTop (mkF m 41 #[.val (.int p1), .val (.int f), .unset] [(.int (1 : Int32)), (.int b1), (.ref b0), (.ref b0)])) _
        exact k
      exact ⟨(1 : Int32), _, _, X11, N11, e11, (by first | (simp [own_bi, hc33]; done) | contradiction), pre18⟩
  obtain ⟨b2, T15, Lo15, X15, N15, e15, hb2, pre15⟩ := mrg15
  have mrg19 : ∃ (b3 : Int32) (T19 : State) (Lo19 : List Loc), Stand p l e room_1 s m #[(.int p1)] below meth c T19 Lo19 1 4 ∧ Fr n0 Lo19 ∧ T19.heap = h7 ∧ (b3 = own_bi (¬ (f &&& 4) = 0)) ∧ ∀ t, Steps p.tables e below (T19.setTop (mkF m 52 #[.val (.int p1), .val (.int f), .unset] [(.int b3), (.int b2), (.int b1), (.ref b0), (.ref b0)])) t → Steps p.tables e below (s₁.setTop (entryFrame m #[(.int p1)] maxLocals)) t := by
    have pre20 : ∀ t, Steps p.tables e below (T15.setTop (mkF m 44 #[.val (.int p1), .val (.int f), .unset] [(.int (f &&& (4 : Int32))), (.int b2), (.int b1), (.ref b0), (.ref b0)])) t → Steps p.tables e below (s₁.setTop (entryFrame m #[(.int p1)] maxLocals)) t := by
      intro t k
      refine pre15 t ?_
      refine XS.iloadN X15.here hx rfl (hb hby at_41) rfl ?_
      show Steps p.tables e below (T15.setTop (mkF m 42 #[.val (.int p1), .val (.int f), .unset] [(.int f), (.int b2), (.int b1), (.ref b0), (.ref b0)])) _
      refine XS.iconst X15.here hx rfl (hb hby at_42) ?_
      show Steps p.tables e below (T15.setTop (mkF m 43 #[.val (.int p1), .val (.int f), .unset] [(.int (4 : Int32)), (.int f), (.int b2), (.int b1), (.ref b0), (.ref b0)])) _
      refine XS.iand X15.here hx rfl (hb hby at_43) rfl ?_
      show Steps p.tables e below (T15.setTop (mkF m 44 #[.val (.int p1), .val (.int f), .unset] [(.int (f &&& (4 : Int32))), (.int b2), (.int b1), (.ref b0), (.ref b0)])) _
      exact k
    by_cases hc44 : (f &&& (4 : Int32)) = (0 : Int32)
    · skip
      have pre21 : ∀ t, Steps p.tables e below (T15.setTop (mkF m 52 #[.val (.int p1), .val (.int f), .unset] [(.int (0 : Int32)), (.int b2), (.int b1), (.ref b0), (.ref b0)])) t → Steps p.tables e below (s₁.setTop (entryFrame m #[(.int p1)] maxLocals)) t := by
        intro t k
        refine pre20 t ?_
        refine XS.ifYes X15.here hx rfl (pc0 := 44) (pc' := 51) rfl (hb hby at_44) rfl (XT.i0_eq_t hc44) (by decide) (by decide) ?_
        show Steps p.tables e below (T15.setTop (mkF m 51 #[.val (.int p1), .val (.int f), .unset] [(.int b2), (.int b1), (.ref b0), (.ref b0)])) _
        refine XS.iconst X15.here hx rfl (hb hby at_51) ?_
        show Steps p.tables e below (T15.setTop (mkF m 52 #[.val (.int p1), .val (.int f), .unset] [(.int (0 : Int32)), (.int b2), (.int b1), (.ref b0), (.ref b0)])) _
        exact k
      exact ⟨(0 : Int32), _, _, X15, N15, e15, (by first | (simp [own_bi, hc44]; done) | contradiction), pre21⟩
    · skip
      have pre22 : ∀ t, Steps p.tables e below (T15.setTop (mkF m 52 #[.val (.int p1), .val (.int f), .unset] [(.int (1 : Int32)), (.int b2), (.int b1), (.ref b0), (.ref b0)])) t → Steps p.tables e below (s₁.setTop (entryFrame m #[(.int p1)] maxLocals)) t := by
        intro t k
        refine pre20 t ?_
        refine XS.ifNo X15.here hx rfl (hb hby at_44) rfl (XT.i0_eq_f hc44) ?_
        show Steps p.tables e below (T15.setTop (mkF m 47 #[.val (.int p1), .val (.int f), .unset] [(.int b2), (.int b1), (.ref b0), (.ref b0)])) _
        refine XS.iconst X15.here hx rfl (hb hby at_47) ?_
        show Steps p.tables e below (T15.setTop (mkF m 48 #[.val (.int p1), .val (.int f), .unset] [(.int (1 : Int32)), (.int b2), (.int b1), (.ref b0), (.ref b0)])) _
        refine XS.goto X15.here hx rfl (pc0 := 48) (pc' := 52) rfl (hb hby at_48) (by decide) (by decide) ?_
        show Steps p.tables e below (T15.setTop (mkF m 52 #[.val (.int p1), .val (.int f), .unset] [(.int (1 : Int32)), (.int b2), (.int b1), (.ref b0), (.ref b0)])) _
        exact k
      exact ⟨(1 : Int32), _, _, X15, N15, e15, (by first | (simp [own_bi, hc44]; done) | contradiction), pre22⟩
  obtain ⟨b3, T19, Lo19, X19, N19, e19, hb3, pre19⟩ := mrg19
  have mrg23 : ∃ (b4 : Int32) (T23 : State) (Lo23 : List Loc), Stand p l e room_1 s m #[(.int p1)] below meth c T23 Lo23 1 4 ∧ Fr n0 Lo23 ∧ T23.heap = h7 ∧ (b4 = own_bi (¬ (f &&& 8) = 0)) ∧ ∀ t, Steps p.tables e below (T23.setTop (mkF m 64 #[.val (.int p1), .val (.int f), .unset] [(.int b4), (.int b3), (.int b2), (.int b1), (.ref b0), (.ref b0)])) t → Steps p.tables e below (s₁.setTop (entryFrame m #[(.int p1)] maxLocals)) t := by
    have pre24 : ∀ t, Steps p.tables e below (T19.setTop (mkF m 56 #[.val (.int p1), .val (.int f), .unset] [(.int (f &&& (8 : Int32))), (.int b3), (.int b2), (.int b1), (.ref b0), (.ref b0)])) t → Steps p.tables e below (s₁.setTop (entryFrame m #[(.int p1)] maxLocals)) t := by
      intro t k
      refine pre19 t ?_
      refine XS.iloadN X19.here hx rfl (hb hby at_52) rfl ?_
      show Steps p.tables e below (T19.setTop (mkF m 53 #[.val (.int p1), .val (.int f), .unset] [(.int f), (.int b3), (.int b2), (.int b1), (.ref b0), (.ref b0)])) _
      refine XS.bipush X19.here hx rfl (hb hby at_53) ?_
      show Steps p.tables e below (T19.setTop (mkF m 55 #[.val (.int p1), .val (.int f), .unset] [(.int (8 : Int32)), (.int f), (.int b3), (.int b2), (.int b1), (.ref b0), (.ref b0)])) _
      refine XS.iand X19.here hx rfl (hb hby at_55) rfl ?_
      show Steps p.tables e below (T19.setTop (mkF m 56 #[.val (.int p1), .val (.int f), .unset] [(.int (f &&& (8 : Int32))), (.int b3), (.int b2), (.int b1), (.ref b0), (.ref b0)])) _
      exact k
    by_cases hc56 : (f &&& (8 : Int32)) = (0 : Int32)
    · skip
      have pre25 : ∀ t, Steps p.tables e below (T19.setTop (mkF m 64 #[.val (.int p1), .val (.int f), .unset] [(.int (0 : Int32)), (.int b3), (.int b2), (.int b1), (.ref b0), (.ref b0)])) t → Steps p.tables e below (s₁.setTop (entryFrame m #[(.int p1)] maxLocals)) t := by
        intro t k
        refine pre24 t ?_
        refine XS.ifYes X19.here hx rfl (pc0 := 56) (pc' := 63) rfl (hb hby at_56) rfl (XT.i0_eq_t hc56) (by decide) (by decide) ?_
        show Steps p.tables e below (T19.setTop (mkF m 63 #[.val (.int p1), .val (.int f), .unset] [(.int b3), (.int b2), (.int b1), (.ref b0), (.ref b0)])) _
        refine XS.iconst X19.here hx rfl (hb hby at_63) ?_
        show Steps p.tables e below (T19.setTop (mkF m 64 #[.val (.int p1), .val (.int f), .unset] [(.int (0 : Int32)), (.int b3), (.int b2), (.int b1), (.ref b0), (.ref b0)])) _
        exact k
      exact ⟨(0 : Int32), _, _, X19, N19, e19, (by first | (simp [own_bi, hc56]; done) | contradiction), pre25⟩
    · skip
      have pre26 : ∀ t, Steps p.tables e below (T19.setTop (mkF m 64 #[.val (.int p1), .val (.int f), .unset] [(.int (1 : Int32)), (.int b3), (.int b2), (.int b1), (.ref b0), (.ref b0)])) t → Steps p.tables e below (s₁.setTop (entryFrame m #[(.int p1)] maxLocals)) t := by
        intro t k
        refine pre24 t ?_
        refine XS.ifNo X19.here hx rfl (hb hby at_56) rfl (XT.i0_eq_f hc56) ?_
        show Steps p.tables e below (T19.setTop (mkF m 59 #[.val (.int p1), .val (.int f), .unset] [(.int b3), (.int b2), (.int b1), (.ref b0), (.ref b0)])) _
        refine XS.iconst X19.here hx rfl (hb hby at_59) ?_
        show Steps p.tables e below (T19.setTop (mkF m 60 #[.val (.int p1), .val (.int f), .unset] [(.int (1 : Int32)), (.int b3), (.int b2), (.int b1), (.ref b0), (.ref b0)])) _
        refine XS.goto X19.here hx rfl (pc0 := 60) (pc' := 64) rfl (hb hby at_60) (by decide) (by decide) ?_
        show Steps p.tables e below (T19.setTop (mkF m 64 #[.val (.int p1), .val (.int f), .unset] [(.int (1 : Int32)), (.int b3), (.int b2), (.int b1), (.ref b0), (.ref b0)])) _
        exact k
      exact ⟨(1 : Int32), _, _, X19, N19, e19, (by first | (simp [own_bi, hc56]; done) | contradiction), pre26⟩
  obtain ⟨b4, T23, Lo23, X23, N23, e23, hb4, pre23⟩ := mrg23
  have hz := own_law hf hb1 hb2 hb3 hb4
  have z1 : b1 = 0 ∨ b1 = 1 := by rw [hb1]; exact own_bi_01 _
  have z2 : b2 = 0 ∨ b2 = 1 := by rw [hb2]; exact own_bi_01 _
  have z3 : b3 = 0 ∨ b3 = 1 := by rw [hb3]; exact own_bi_01 _
  have z4 : b4 = 0 ∨ b4 = 1 := by rw [hb4]; exact own_bi_01 _
  obtain ⟨_, _, ⟨T28, L28, k28, n28⟩, -, X28, ⟨Lc28, hQ28, l28, y28, z28⟩, st28⟩ := X23.specialBack hx (y := (⟨"com/example/okra/okra/pack/Settings", "<init>", "(ZZZZ)V"⟩ : MethodName)) rfl hown (mvT hZ (hw _ (List.mem_of_getElem? (i := 3) rfl))) (mvT hZ (hw _ (List.mem_of_getElem? (i := 4) rfl))) (mvT hZ (hw _ (List.mem_of_getElem? (i := 5) rfl))) (by decide) (backOf (W := 1) (rm1 l Z a0 hw [] b0 b1 b2 b3 b4 h7 n0 Z9 A7 g_b0 hz.2 z1 z2 z3 z4 F_ordered_b0 F_offsets_b0 F_valueOrder_b0 F_persisted_b0) hZ (hw _ (List.mem_of_getElem? (i := 5) rfl)) (hw _ (List.mem_of_getElem? (i := 2) rfl)) (by decide) (by decide)) (g := (mkF m 64 #[.val (.int p1), .val (.int f), .unset] [(.int b4), (.int b3), (.int b2), (.int b1), (.ref b0), (.ref b0)])) rfl (by rw [hml]; rfl) (Steps.refl _) (a := b0) (argsL := [(.int b1), (.int b2), (.int b3), (.int b4)]) (rest := [(.ref b0)]) (lenOf pd_ini rfl) rfl (by show 2 * 0 + _ ≤ _; exact Nat.le_of_eq rfl) (hb hby at_64) (fun _ _ => ⟨rfl, e23, (by decide : 1 + 0 ≤ _), (by decide : 4 + 0 ≤ _)⟩)
  dsimp only [Pt.U, Pt.locs, Pt.cells, Pt.slots] at X28 l28 y28 z28 st28 hQ28
  subst l28 y28 z28
  obtain ⟨rfl, Nq28, Kq28, Fa28, Fb28, Fc28, Fd28⟩ := hQ28
  have N28 := Fr.app N23 Nq28
  have pre29 : ∀ t, Steps p.tables e below (T28.setTop (mkF m 67 #[.val (.int p1), .val (.int f), .unset] [(.ref b0)])) t → Steps p.tables e below (s₁.setTop (entryFrame m #[(.int p1)] maxLocals)) t := fun t k => pre23 t (st28.trans k)
  obtain ⟨h28, e28⟩ : ∃ z, T28.heap = z := ⟨_, rfl⟩
  rw [e28] at Kq28 Fa28 Fb28 Fc28 Fd28
  have pre31 : ∀ t, Steps p.tables e below (T28.setTop (mkF m 69 #[.val (.int p1), .val (.int f), .val (.ref b0)] [(.ref b0)])) t → Steps p.tables e below (s₁.setTop (entryFrame m #[(.int p1)] maxLocals)) t := by
    intro t k
    refine pre29 t ?_
    refine XS.astoreN X28.here hx rfl (hb hby at_67) rfl rfl (l' := #[.val (.int p1), .val (.int f), .val (.ref b0)]) rfl ?_
    show Steps p.tables e below (T28.setTop (mkF m 68 #[.val (.int p1), .val (.int f), .val (.ref b0)] [])) _
    refine XS.aloadN X28.here hx rfl (hb hby at_68) rfl rfl ?_
    show Steps p.tables e below (T28.setTop (mkF m 69 #[.val (.int p1), .val (.int f), .val (.ref b0)] [(.ref b0)])) _
    exact k
  have E30_0 : Exa Z h28 b0 "com/example/okra/okra/pack/Settings" := (A7.keep Kq28)
  have Z30 : n0 ≤ h28.size := (Nat.le_trans Z9 Kq28.1)
  obtain ⟨cq33, kq33, q33a, q33b, q33c⟩ := isOf hZ e28 E30_0
  obtain ⟨_, _, ⟨T33, L33, k33, n33⟩, -, X33, ⟨Lc33, hQ33, l33, y33, z33⟩, st33⟩ := X28.virtualBack hx (y := (⟨"com/example/okra/okra/pack/Settings", "flags", "()I"⟩ : MethodName)) (z := (⟨"com/example/okra/okra/pack/Settings", "flags", "()I"⟩ : MethodName)) hown (mvT hZ (hw _ (List.mem_of_getElem? (i := 22) rfl))) (mvT hZ (hw _ (List.mem_of_getElem? (i := 23) rfl))) (notFace_of_selects (args := #[]) (mvT hZ (hw _ (List.mem_of_getElem? (i := 25) rfl)))) (mvT hZ (hw _ (List.mem_of_getElem? (i := 25) rfl))) (mvT hZ (hw _ (List.mem_of_getElem? (i := 24) rfl))) (by decide) (backOf (W := 0) (rm4 l Z a0 hw [] b0 b1 b2 b3 b4 h28 n0 Z30 Fa28 Fb28 Fc28 Fd28) hZ (hw _ (List.mem_of_getElem? (i := 26) rfl)) (hw _ (List.mem_of_getElem? (i := 2) rfl)) (by decide) (by decide)) q33a q33c (g := (mkF m 69 #[.val (.int p1), .val (.int f), .val (.ref b0)] [(.ref b0)])) rfl (by rw [hml]; rfl) (Steps.refl _) (argsL := []) (rest := []) (lenOf pd_fl rfl) rfl (by show 2 * 0 + _ ≤ _; exact Nat.le_of_eq rfl) (hb hby at_69) (fun _ _ => ⟨rfl, e28, (by decide : 1 + 0 ≤ _), (by decide : 4 + 0 ≤ _)⟩)
  dsimp only [Pt.U, Pt.locs, Pt.cells, Pt.slots] at X33 l33 y33 z33 st33 hQ33
  subst l33 y33 z33
  obtain ⟨rfl, Nq33, heq33⟩ := hQ33
  have N33 := Fr.app N28 Nq33
  have pre34 : ∀ t, Steps p.tables e below (T33.setTop (mkF m 72 #[.val (.int p1), .val (.int f), .val (.ref b0)] [(.int (own_fl b1 b2 b3 b4))])) t → Steps p.tables e below (s₁.setTop (entryFrame m #[(.int p1)] maxLocals)) t := fun t k => pre31 t (st33.trans k)
  have pre35 : ∀ t, Steps p.tables e below (T33.setTop (mkF m 81 #[.val (.int p1), .val (.int f), .val (.ref b0)] [(.int (1 : Int32))])) t → Steps p.tables e below (s₁.setTop (entryFrame m #[(.int p1)] maxLocals)) t := by
    intro t k
    refine pre34 t ?_
    refine XS.iloadN X33.here hx rfl (hb hby at_72) rfl ?_
    show Steps p.tables e below (T33.setTop (mkF m 73 #[.val (.int p1), .val (.int f), .val (.ref b0)] [(.int f), (.int (own_fl b1 b2 b3 b4))])) _
    refine XS.icmpNo X33.here hx rfl (hb hby at_73) rfl (XT.ii_ne_f hz.1) ?_
    show Steps p.tables e below (T33.setTop (mkF m 76 #[.val (.int p1), .val (.int f), .val (.ref b0)] [])) _
    refine XS.iconst X33.here hx rfl (hb hby at_76) ?_
    show Steps p.tables e below (T33.setTop (mkF m 77 #[.val (.int p1), .val (.int f), .val (.ref b0)] [(.int (1 : Int32))])) _
    refine XS.goto X33.here hx rfl (pc0 := 77) (pc' := 81) rfl (hb hby at_77) (by decide) (by decide) ?_
    show Steps p.tables e below (T33.setTop (mkF m 81 #[.val (.int p1), .val (.int f), .val (.ref b0)] [(.int (1 : Int32))])) _
    exact k
  obtain ⟨fs, hr, hrun, hended, hW, hsame⟩ := X33.leave (v := some (.int (1 : Int32))) (fun h => by rw [Bd.returns] at h; cases h)
  refine ⟨_, _, pre35 _ ?_, hrun, hended, _, _, rfl, ?_, ⟨_, rfl⟩, hW, hsame.mono (by decide) (by decide)⟩
  · exact retOut X33 hx Bd.returns rfl (Or.inl ⟨rfl, by simp, _, rfl⟩) (hb hby at_81) hr
  · show Qlaw Z p1 h0 n0 _ T33.heap _
    rw [heq33]
    exact ⟨rfl, N33⟩
set_option maxRecDepth 65536 in
set_option maxHeartbeats 40000000 in
theorem comes_1 {Post : Tables → Env → Array Value → State → Outcome → State → Prop} (hpost : ∀ tb e args s v u, (limb_1_1.after args s (.returned v) u = true ∧ limb_1_2.after args s (.returned v) u = true ∧ True) → FrameEnd s (.returned v) u (Jvm.fieldLocs frame_1_writes args s ++ Jvm.arrayLocs frame_1_arrays args s ++ Jvm.staticLocs frame_1_statics s) 16 128 → Post tb e args s (.returned v) u) :
    ArmFor flags0 classFile x code maxLocals ret World_1 tables_1 room_1 Calls_1 rest_1 Pre_1 Post := by
  intro l hfl _ _ p e ha hc hk s m args below hf hA hF happ hP
  obtain ⟨hcalls, hrest, hpre⟩ := hP
  obtain ⟨-, -, -, hnamed, -, -, -, hat⟩ := (Spec.applies_iff hf).mp happ
  obtain ⟨hg, hn⟩ := and_e (Cond.before_iff.mp (show (Jvm.Cond.and given_1 narrow_1).before args s = true from hpre))
  obtain ⟨gc, g0⟩ := and_e hg
  obtain ⟨w0, rfl⟩ : ∃ w0 : Value, args = #[w0] := by
    have hs : args.size = 1 := by simpa [Cond.value, given_1] using gc
    obtain ⟨L⟩ := args
    match L, hs with
    | [w0], _ => exact ⟨w0, rfl⟩
  have hw := fun d (hd : d ∈ tables_1) => atoms_spec (ws := Jvm.Cond.code x code maxLocals ret :: tables_1) hat d (List.mem_cons_of_mem _ hd)
  have hfit : Fit s := fun {y c} hc i hi => by
    obtain ⟨ha, rfl⟩ := Array.getElem?_eq_some_iff.mp hc
    have q := List.all_eq_true.mp ((Array.all_eq_true_iff_forall_mem.mp hF) _ (Array.getElem_mem ha)) i (List.mem_range.mpr hi)
    simpa [Array.getElem?_eq_getElem hi] using q
  obtain ⟨i0, ei0⟩ := is_v g0
  obtain rfl : w0 = (.int i0) := Option.some.inj ei0
  obtain ⟨n, o, h1, h2, h3, _, L, rfl, ⟨rfl, N⟩, hq⟩ := rmlaw l s _ hw tables_1 i0 s.heap s.heap.size (Nat.le_refl _)  p e ha hc hk s m _ below hf ((Spec.applies_iff_loose hf).mp happ).1 ⟨rfl, State.Warmed39.refl s, rfl⟩ trivial
  refine ⟨n, _, h1, h2, h3, hpost _ _ _ _ _ _ ⟨Cond.after_iff.mpr rfl, Cond.after_iff.mpr (eq_i res_at (Term.int_eval (1)) rfl), trivial⟩ ⟨hq.1, hq.2.1, (hq.2.2.sift fun y hy => Or.inr (N y hy)).mono (by decide) (by decide)⟩⟩
theorem main_1_1 : Claimed_1_1 := comes_1 fun _ _ _ _ _ _ h hF => ⟨h.1, hF⟩
theorem main_1_2 : Claimed_1_2 := comes_1 fun _ _ _ _ _ _ h hF => ⟨h.2.1, hF⟩
end Jvm.Pilot.@@N@@
namespace Jvm.Pilot.@@N@@
open Jvm Jvm.ClassFile Sem Op Lib Jvm.Free Jvm.Stand Jvm.Pilot.@@N@@.Jvm.D
/-! MADE BY PROGRAM (witnessworld.py) out of the Statement's table words and the real class files: 10 classes; the members and pool entries that the words name. The judged class is class 1, her method 1. -/
namespace start1
open Jvm.ClassFile
def u (s : String) : CpInfo := .utf8 (stringToUtf16 s)
/-- a pool by its gaps: so many unusable entries, then the entry; so many at the end -/
def gap : Nat → List CpInfo → List CpInfo
  | 0, r => r
  | n + 1, r => .unusable :: gap n r
def poolList (es : List (Nat × CpInfo)) (last : Nat) : List CpInfo := es.foldr (fun e r => gap e.1 (e.2 :: r)) (gap last [])
def pool (es : List (Nat × CpInfo)) (last : Nat) : Array CpInfo := ⟨poolList es last⟩
def fileOf (pool : Array CpInfo) (this : Nat) (attrs : Array Attribute := #[]) (ms : Array MethodInfo := #[]) (fl : Nat := 33) (sup : Nat := 0) (ifs : Array Nat := #[]) (fds : Array FieldInfo := #[]) : ClassFile where
  minorVersion := 0
  majorVersion := 65
  constantPool := pool
  accessFlags := fl
  thisClass := this
  superClass := sup
  interfaces := ifs
  fields := fds
  methods := ms
  attributes := attrs
def plain (name : String) (sup : Option ClassId) : Class where
  name := name
  kind := .ordinary
  loader := none
  accessFlags := 33
  super := sup
  interfaces := #[]
  cf := none
  fields := #[]
  methods := #[]
  instanceTypes := #[]
  staticTypes := #[]
  resolved := #[]
  callSites := []
  init := .initialized
  statics := none
  mirror := none

def pool0 : Array CpInfo := pool [(5, u "<init>"), (0, u "()V"), (1, .class_ 10), (1, u "java/lang/Object")] 113

def k0c0 : Code := { maxStack := 0, maxLocals := 1, code := object_method_1_code, exceptionTable := #[], attributes := #[] }
def k0m0 : Method := { name := "<init>", desc := "()V", sig := { parameters := [], returnType := none }, accessFlags := 1, code := some k0c0 }
/-- java/lang/Object -/
def k0 : Class := { plain "java/lang/Object" none with
  accessFlags := 33
  interfaces := #[]
  cf := some (fileOf pool0 8 #[] #[{ accessFlags := 1, nameIndex := 5, descriptorIndex := 6, attributes := #[] }] 33 0 #[] #[])
  fields := #[]
  methods := #[k0m0]
  instanceTypes := #[]
  staticTypes := #[]
  resolved := Array.replicate 124 none
  statics := none }

def pool1 : Array CpInfo := pool [(2, .class_ 4), (1, u "java/lang/Object"), (0, u "<init>"), (0, u "()V"), (0, .class_ 8), (0, u "com/example/okra/okra/pack/Settings"), (0, .methodref 7 10), (0, .nameAndType 5 11), (0, u "(ZZZZ)V"), (0, .methodref 7 13), (0, .nameAndType 14 15), (0, u "flags"), (0, u "()I"), (0, .class_ 17), (0, u "com/example/okra/okra/pack/SettingsFlagsPinLaw"), (2, u "law"), (0, u "(I)Z")] 3

def k1m0 : Method := { name := "<init>", desc := "()V", sig := { parameters := [], returnType := none }, accessFlags := 1, code := none }
def k1c1 : Code := { maxStack := 7, maxLocals := 3, code := code, exceptionTable := #[], attributes := #[] }
def k1m1 : Method := { name := "law", desc := "(I)Z", sig := { parameters := [.int], returnType := some .boolean }, accessFlags := 9, code := some k1c1 }
/-- com/example/okra/okra/pack/SettingsFlagsPinLaw -/
def k1 : Class := { plain "com/example/okra/okra/pack/SettingsFlagsPinLaw" (some 0) with
  accessFlags := 49
  interfaces := #[]
  cf := some (fileOf pool1 16 #[] #[{ accessFlags := 1, nameIndex := 5, descriptorIndex := 6, attributes := #[] }, { accessFlags := 9, nameIndex := 20, descriptorIndex := 21, attributes := #[] }] 49 2 #[] #[])
  fields := #[]
  methods := #[k1m0, k1m1]
  instanceTypes := #[]
  staticTypes := #[]
  resolved := Array.replicate 25 none
  statics := none }

def pool2 : Array CpInfo := pool [(1, .methodref 2 3), (0, .class_ 4), (0, .nameAndType 5 6), (0, u "java/lang/Object"), (0, u "<init>"), (0, u "()V"), (0, .class_ 8), (0, u "java/lang/Record")] 13

def k2c0 : Code := { maxStack := 1, maxLocals := 1, code := jdk_30_method_1_code, exceptionTable := #[], attributes := #[] }
def k2m0 : Method := { name := "<init>", desc := "()V", sig := { parameters := [], returnType := none }, accessFlags := 4, code := some k2c0 }
/-- java/lang/Record -/
def k2 : Class := { plain "java/lang/Record" (some 0) with
  accessFlags := 1057
  interfaces := #[]
  cf := some (fileOf pool2 7 #[] #[{ accessFlags := 4, nameIndex := 5, descriptorIndex := 6, attributes := #[] }] 1057 2 #[] #[])
  fields := #[]
  methods := #[k2m0]
  instanceTypes := #[]
  staticTypes := #[]
  resolved := Array.replicate 22 none
  statics := none }

def pool3 : Array CpInfo := pool [(1, .methodref 2 3), (0, .class_ 4), (0, .nameAndType 5 6), (0, u "java/lang/Record"), (0, u "<init>"), (0, u "()V"), (7, .fieldref 15 16), (0, .class_ 17), (0, .nameAndType 18 19), (0, u "com/example/okra/okra/pack/Settings"), (0, u "ordered"), (0, u "Z"), (0, .fieldref 15 21), (0, .nameAndType 22 19), (0, u "offsets"), (0, .fieldref 15 24), (0, .nameAndType 25 19), (0, u "valueOrder"), (0, .fieldref 15 27), (0, .nameAndType 28 19), (0, u "persisted"), (2, u "(ZZZZ)V"), (18, u "NONE"), (0, u "Lcom/example/okra/okra/pack/Settings;"), (0, u "ORDERED"), (0, u "I"), (2, u "OFFSETS"), (1, u "VALUE_ORDER"), (1, u "PERSISTED"), (11, u "flags"), (0, u "()I")] 36

def k3c0 : Code := { maxStack := 3, maxLocals := 5, code := prog_44_method_1_code, exceptionTable := #[], attributes := #[] }
def k3m0 : Method := { name := "<init>", desc := "(ZZZZ)V", sig := { parameters := [.boolean, .boolean, .boolean, .boolean], returnType := none }, accessFlags := 1, code := some k3c0 }
def k3c1 : Code := { maxStack := 2, maxLocals := 2, code := prog_44_method_5_code, exceptionTable := #[], attributes := #[] }
def k3m1 : Method := { name := "flags", desc := "()I", sig := { parameters := [], returnType := some .int }, accessFlags := 0, code := some k3c1 }
/-- com/example/okra/okra/pack/Settings -/
def k3 : Class := { plain "com/example/okra/okra/pack/Settings" (some 2) with
  accessFlags := 49
  interfaces := #[]
  cf := some (fileOf pool3 15 #[] #[{ accessFlags := 1, nameIndex := 5, descriptorIndex := 31, attributes := #[] }, { accessFlags := 0, nameIndex := 72, descriptorIndex := 73, attributes := #[] }] 49 2 #[] #[{ accessFlags := 18, nameIndex := 18, descriptorIndex := 19, attributes := #[] }, { accessFlags := 18, nameIndex := 22, descriptorIndex := 19, attributes := #[] }, { accessFlags := 18, nameIndex := 25, descriptorIndex := 19, attributes := #[] }, { accessFlags := 18, nameIndex := 28, descriptorIndex := 19, attributes := #[] }, { accessFlags := 25, nameIndex := 50, descriptorIndex := 51, attributes := #[] }, { accessFlags := 24, nameIndex := 52, descriptorIndex := 53, attributes := #[] }, { accessFlags := 24, nameIndex := 56, descriptorIndex := 53, attributes := #[] }, { accessFlags := 24, nameIndex := 58, descriptorIndex := 53, attributes := #[] }, { accessFlags := 24, nameIndex := 60, descriptorIndex := 53, attributes := #[] }])
  fields := #[{ name := "ordered", type := .boolean, accessFlags := 18, slot := 0, constantValue := 0 }, { name := "offsets", type := .boolean, accessFlags := 18, slot := 1, constantValue := 0 }, { name := "valueOrder", type := .boolean, accessFlags := 18, slot := 2, constantValue := 0 }, { name := "persisted", type := .boolean, accessFlags := 18, slot := 3, constantValue := 0 }, { name := "NONE", type := (.object "com/example/okra/okra/pack/Settings"), accessFlags := 25, slot := 0, constantValue := 0 }, { name := "ORDERED", type := .int, accessFlags := 24, slot := 1, constantValue := 0 }, { name := "OFFSETS", type := .int, accessFlags := 24, slot := 2, constantValue := 0 }, { name := "VALUE_ORDER", type := .int, accessFlags := 24, slot := 3, constantValue := 0 }, { name := "PERSISTED", type := .int, accessFlags := 24, slot := 4, constantValue := 0 }]
  methods := #[k3m0, k3m1]
  instanceTypes := #[.boolean, .boolean, .boolean, .boolean]
  staticTypes := #[(.object "com/example/okra/okra/pack/Settings"), .int, .int, .int, .int]
  resolved := Array.replicate 110 none
  statics := none }

def pool4 : Array CpInfo := pool [(1, u "java/lang/Cloneable"), (0, .class_ 1), (0, u "java/lang/Object"), (0, .class_ 3)] 3

/-- java/lang/Cloneable -/
def k4 : Class := { plain "java/lang/Cloneable" (some 0) with
  accessFlags := 1537
  interfaces := #[]
  cf := some (fileOf pool4 2 #[] #[] 1537 4 #[] #[])
  fields := #[]
  methods := #[]
  instanceTypes := #[]
  staticTypes := #[]
  resolved := Array.replicate 8 none
  statics := none }

def pool5 : Array CpInfo := pool [(1, u "java/io/Serializable"), (0, .class_ 1), (0, u "java/lang/Object"), (0, .class_ 3)] 3

/-- java/io/Serializable -/
def k5 : Class := { plain "java/io/Serializable" (some 0) with
  accessFlags := 1537
  interfaces := #[]
  cf := some (fileOf pool5 2 #[] #[] 1537 4 #[] #[])
  fields := #[]
  methods := #[]
  instanceTypes := #[]
  staticTypes := #[]
  resolved := Array.replicate 8 none
  statics := none }

/-- the primitive byte -/
def k6 : Class := { plain "byte" none with kind := .primitive 'B', accessFlags := 0x411 }
/-- [B -/
def k7 : Class := { plain "[B" (some 0) with kind := .array 6 .byte, interfaces := #[4, 5], accessFlags := 1041 }

/-- the primitive int -/
def k8 : Class := { plain "int" none with kind := .primitive 'I', accessFlags := 0x411 }
/-- [I -/
def k9 : Class := { plain "[I" (some 0) with kind := .array 8 .int, interfaces := #[4, 5], accessFlags := 1041 }

def heap : Heap := #[]
def classes : Array Class := #[k0, k1, k2, k3, k4, k5, k6, k7, k8, k9]
def interned : List (Array UInt16 × Addr) := []
def slotsUsed : Nat := 0
def theMethod : MethodId := ⟨1, 1⟩
def args0 : Array Value := #[.int 7]
def aboutOver (below : List Frame) : State where
  vm := { classes := classes, interned := interned.toArray }
  heap := heap
  slotsUsed := slotsUsed
  threads := #[{ frames := .invoking theMethod args0 :: below }]
def below0 : List Frame := [.native { method := ⟨0, 0⟩, args := #[] }]
def about1 : State := aboutOver below0
def p0 : Program := .bare "" "" ""
def e0 : Env := launch0.env 0 0 0
theorem w_frames : about1.frames = Frame.invoking theMethod args0 :: below0 := rfl
set_option maxRecDepth 65536 in
theorem w_args : argsFit about1.vm theMethod args0 = true := by decide +kernel
set_option maxRecDepth 65536 in
theorem w_heap : heapFits about1 = true := by decide +kernel
set_option maxRecDepth 65536 in
theorem w_runnable : about1.curStatus? = some .runnable := by decide +kernel
set_option maxRecDepth 65536 in
theorem w_alone : about1.alone = true := by decide +kernel
set_option maxRecDepth 65536 in
theorem w_named : about1.methodNamed? x = some theMethod := by decide +kernel
set_option maxRecDepth 65536 in
theorem w_hears : about1.hears theMethod below0 = true := by decide +kernel
set_option maxRecDepth 65536 in
theorem w_ripe : about1.ripe theMethod args0 below0 = true := by decide +kernel
theorem w_running : about1.status = .running := rfl
set_option maxRecDepth 65536 in
theorem w_room : about1.hasRoom e0.platform room_1 = true :=
  launch0.hasRoom_least _ room_1 (by decide +kernel) (by decide +kernel) (by decide +kernel) (by decide +kernel) (by decide +kernel) (by decide +kernel)
theorem allAtoms_all (ts : List Jvm.Cond) (a : Array Jvm.Value) (st : Jvm.State) : (allAtoms ts).before a st = ts.all (fun c => c.before a st) := by
  induction ts with
  | nil => rfl
  | cons c t ih =>
    show (Jvm.Cond.and c (allAtoms t)).before a st = _
    rw [Jvm.Cond.before_and, ih, List.all_cons]
def words1 : List Jvm.Cond := Jvm.Cond.code x code maxLocals ret :: tables_1
/-- a 'code' word, met by the world's own term for the bytes: nothing is compared byte by byte -/
theorem code_word {y : MethodName} {bytes : ByteArray} {mx : Nat} {rt : Option FieldType} {a : Array Value} {s : State} {m : MethodId} {meth : Method} {c : Code} (h1 : s.methodNamed? y = some m) (h2 : s.vm.method? m = some meth) (h3 : meth.code = some c) (h4 : c.code = bytes)
    (h5 : (c.maxLocals == mx && c.exceptionTable.isEmpty && decide (c.maxStack ≤ mostOperands) && decide (meth.sig.returnType = rt) && !meth.locks && decide (parseMethodDescriptor y.desc = some meth.sig)) = true) : (Jvm.Cond.code y bytes mx rt).before a s = true := by
  simp only [Bool.and_eq_true, beq_iff_eq, Bool.not_eq_true', decide_eq_true_eq] at h5
  obtain ⟨⟨⟨⟨⟨g1, g2⟩, g3⟩, g4⟩, g5⟩, g6⟩ := h5
  simp [Cond.before, Cond.holds, Cond.value, h1, h2, h3, h4, g1, g2, g3, g4, g5, g6]
def isCode : Jvm.Cond → Bool
  | .code _ _ _ _ => true
  | _ => false
theorem all_split {L : List Jvm.Cond} {P : Jvm.Cond → Bool} (h1 : L.all (fun c => isCode c || P c) = true) (h2 : ∀ c ∈ L.filter isCode, P c = true) : L.all P = true := by
  refine List.all_eq_true.mpr fun c hc => ?_
  have h := List.all_eq_true.mp h1 c hc
  rcases Bool.eq_false_or_eq_true (isCode c) with hi | hi
  · exact h2 c (List.mem_filter.mpr ⟨hc, hi⟩)
  · simpa [hi] using h
set_option maxRecDepth 65536 in
theorem w_c0 : (Jvm.Cond.code x code maxLocals ret).before args0 about1 = true := code_word (m := ⟨1, 1⟩) (meth := k1m1) (c := k1c1) (by decide +kernel) rfl rfl rfl (by decide +kernel)
set_option maxRecDepth 65536 in
theorem w_c1 : (Jvm.Cond.code ({ cls := "com/example/okra/okra/pack/Settings", name := "<init>", desc := "(ZZZZ)V" } : Jvm.MethodName) prog_44_method_1_code (5 : Nat) (Option.none : Option Jvm.ClassFile.FieldType)).before args0 about1 = true := code_word (m := ⟨3, 0⟩) (meth := k3m0) (c := k3c0) (by decide +kernel) rfl rfl rfl (by decide +kernel)
set_option maxRecDepth 65536 in
theorem w_c2 : (Jvm.Cond.code ({ cls := "java/lang/Record", name := "<init>", desc := "()V" } : Jvm.MethodName) jdk_30_method_1_code (1 : Nat) (Option.none : Option Jvm.ClassFile.FieldType)).before args0 about1 = true := code_word (m := ⟨2, 0⟩) (meth := k2m0) (c := k2c0) (by decide +kernel) rfl rfl rfl (by decide +kernel)
set_option maxRecDepth 65536 in
theorem w_c3 : (Jvm.Cond.code ({ cls := "java/lang/Object", name := "<init>", desc := "()V" } : Jvm.MethodName) object_method_1_code (1 : Nat) (Option.none : Option Jvm.ClassFile.FieldType)).before args0 about1 = true := code_word (m := ⟨0, 0⟩) (meth := k0m0) (c := k0c0) (by decide +kernel) rfl rfl rfl (by decide +kernel)
set_option maxRecDepth 65536 in
theorem w_c4 : (Jvm.Cond.code ({ cls := "com/example/okra/okra/pack/Settings", name := "flags", desc := "()I" } : Jvm.MethodName) prog_44_method_5_code (2 : Nat) (Option.some Jvm.ClassFile.FieldType.int)).before args0 about1 = true := code_word (m := ⟨3, 1⟩) (meth := k3m1) (c := k3c1) (by decide +kernel) rfl rfl rfl (by decide +kernel)
def codes1 : List Jvm.Cond := [Jvm.Cond.code x code maxLocals ret, Jvm.Cond.code ({ cls := "com/example/okra/okra/pack/Settings", name := "<init>", desc := "(ZZZZ)V" } : Jvm.MethodName) prog_44_method_1_code (5 : Nat) (Option.none : Option Jvm.ClassFile.FieldType), Jvm.Cond.code ({ cls := "java/lang/Record", name := "<init>", desc := "()V" } : Jvm.MethodName) jdk_30_method_1_code (1 : Nat) (Option.none : Option Jvm.ClassFile.FieldType), Jvm.Cond.code ({ cls := "java/lang/Object", name := "<init>", desc := "()V" } : Jvm.MethodName) object_method_1_code (1 : Nat) (Option.none : Option Jvm.ClassFile.FieldType), Jvm.Cond.code ({ cls := "com/example/okra/okra/pack/Settings", name := "flags", desc := "()I" } : Jvm.MethodName) prog_44_method_5_code (2 : Nat) (Option.some Jvm.ClassFile.FieldType.int)]
set_option maxRecDepth 65536 in
theorem codes_eq : words1.filter isCode = codes1 := rfl
theorem w_codes : ∀ c ∈ words1.filter isCode, c.before args0 about1 = true := by
  rw [codes_eq]
  intro c hc
  simp only [codes1, List.mem_cons, List.not_mem_nil, or_false] at hc
  rcases hc with rfl | rfl | rfl | rfl | rfl
  · exact w_c0
  · exact w_c1
  · exact w_c2
  · exact w_c3
  · exact w_c4
set_option maxRecDepth 65536 in
theorem w_t1 : (words1.take 24).all (fun c => isCode c || c.before args0 about1) = true := by decide +kernel
set_option maxRecDepth 65536 in
theorem w_t2 : (words1.drop 24).all (fun c => isCode c || c.before args0 about1) = true := by decide +kernel
theorem w_tables : (allAtoms (Jvm.Cond.code x code maxLocals ret :: tables_1)).before args0 about1 = true := by
  rw [allAtoms_all]
  show words1.all (fun c => c.before args0 about1) = true
  refine all_split ?_ w_codes
  rw [← List.take_append_drop 24 words1, List.all_append, w_t1, w_t2]
  rfl
set_option maxRecDepth 65536 in
theorem w_case : (Jvm.Cond.and given_1 narrow_1).before args0 about1 = true := by decide +kernel
theorem w_applies : (headSpec (Jvm.Cond.code x code maxLocals ret :: tables_1) room_1).applies x e0.platform about1 = true :=
  (Spec.applies_iff w_frames).mpr ⟨w_running, w_runnable, w_alone, w_named, w_hears, w_ripe, w_room, w_tables⟩
theorem atStart : AtStart classFile x code maxLocals ret World_1 tables_1 room_1 Calls_1 rest_1 Pre_1 launch0 p0 e0 about1 theMethod args0 below0 :=
  ⟨lists_1, trivial, launch0.admits_env _ _ _, launch0.least_env, fairChoices_fair.cas, fairChoices_fair.clock, w_frames, w_args, w_heap, w_applies, trivial, trivial, w_case⟩
end start1
theorem witness_1 : WitnessClaimed_1 := ⟨start1.p0, start1.e0, start1.about1, start1.theMethod, start1.args0, start1.below0, start1.atStart⟩
end Jvm.Pilot.@@N@@
