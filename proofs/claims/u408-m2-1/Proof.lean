import JvmDerived
import JvmDerived.Pilot.@@N@@Statement
import JvmDerived.Pilot.@@N@@Code
set_option linter.unusedVariables false
set_option linter.unusedSimpArgs false
namespace Jvm.Pilot.@@N@@
open Jvm Jvm.ClassFile Sem Op Lib Jvm.Free Jvm.Stand Jvm.LawKit Jvm.RoadKit Bundle Jvm.Pilot.@@N@@.Jvm.D
def own_bi (P : Prop) [Decidable P] : Int32 := if P then 1 else 0
theorem own_bi_t {P : Prop} [Decidable P] (h : P) : own_bi P = 1 := if_pos h
theorem own_bi_f {P : Prop} [Decidable P] (h : ¬ P) : own_bi P = 0 := if_neg h
theorem own_bi_01 (P : Prop) [Decidable P] : own_bi P = 0 ∨ own_bi P = 1 := by by_cases h : P <;> simp [own_bi, h]
theorem own_bi_eq {P Q : Prop} [Decidable P] [Decidable Q] (h : P ↔ Q) : own_bi P = own_bi Q := by by_cases q : P <;> simp [own_bi, q, ← h]
theorem own_bi_iff (P : Prop) [Decidable P] : own_bi P = 1 ↔ P := by by_cases q : P <;> simp [own_bi, q]
theorem own_bi_ne (P : Prop) [Decidable P] : own_bi P = 0 ↔ ¬ P := by by_cases q : P <;> simp [own_bi, q]
theorem own_ofNat {n : Nat} (h : n < 2147483648) : (Int32.ofNat n).toInt = (n : Int) := len_toInt h
theorem own_narZ {z : Int32} (h : z = 0 ∨ z = 1) : narrow .boolean (.int z) = .int z := by rcases h with rfl | rfl <;> rfl
theorem own_max (x : Int64) : ¬ (9223372036854775807 : Int64) < x := by
  rw [Int64.lt_iff_toInt_lt]
  have h := (rng64 x).2
  have e : (9223372036854775807 : Int64).toInt = 9223372036854775807 := rfl
  omega
theorem pn_2 : plainName "java/lang/Record" = true := by first | (simp [plainName, overriddenIn]; done) | decide +kernel
theorem d2_0 : decode jdk_30_method_1_code 0 = .ok (.aload_n 0, 1) := by decide +kernel
theorem d2_1 : decode jdk_30_method_1_code 1 = .ok (.invokespecial 1, 3) := by decide +kernel
theorem d2_4 : decode jdk_30_method_1_code 4 = .ok (.return_, 1) := by decide +kernel
theorem ef_2 (m : MethodId) (a1 : Addr) : entryFrame m #[(.ref a1)] 1 = mkF m 0 #[.val (.ref a1)] [] := by first | (simp [entryFrame, mkF, argsToLocals, Value.category]; done) | rfl
def Q2 (Z : State) (a1 : Addr) (h0 : Heap) (n0 : Nat) (v : Option Value) (h : Heap) (L : List Loc) : Prop := v = none ∧ Fr n0 L ∧ h = h0
set_option maxRecDepth 65536 in
set_option maxHeartbeats 40000000 in
theorem rm2 (l : Launch) (Z : State) (a0 : Array Value) (hw : ∀ d ∈ tables_1, d.before a0 Z = true) (ws : List Jvm.Cond) (a1 : Addr) (h0 : Heap) (n0 : Nat) (Z0 : n0 ≤ h0.size) :
    MetFree l (⟨"java/lang/Record", "<init>", "()V"⟩ : MethodName) (head1 (Jvm.Cond.code (⟨"java/lang/Record", "<init>", "()V"⟩ : MethodName) jdk_30_method_1_code 1 none :: ws) ({ frames := 1, cells := 0, slots := 0, locals := 12 } : Room)) (fun a U => a = #[(.ref a1)] ∧ Z.Warmed39 U.vm ∧ U.heap = h0) (fun _ _ _ _ _ => True) (fun _ U o U' => ∃ v L, o = .returned v ∧ Q2 Z a1 h0 n0 v U'.heap L ∧ FrameEnd U o U' L ({ frames := 1, cells := 0, slots := 0, locals := 12 } : Room).cells ({ frames := 1, cells := 0, slots := 0, locals := 12 } : Room).slots) := by
  refine MetFree.of_bodySF (plainFor_of_name pn_2) hisR ?_
  intro p e s m args below meth c s₁ Bd hml0 hP hK
  obtain ⟨rfl, hZ, hh⟩ := hP
  have hx := Bd.exec
  have hby := Bd.bytes
  have hml : c.maxLocals = 1 := hml0
  have hown : s.vm.findClass "java/lang/Record" = some m.cls := findClass_of_methodNamed Bd.named
  have hnm := (name_of_methodNamed Bd.named Bd.method).1
  have X0 : Stand p l e ({ frames := 1, cells := 0, slots := 0, locals := 12 } : Room) s m #[(.ref a1)] below meth c s₁ [] 0 0 := Stand.of_body Bd
  have e0 : s₁.heap = h0 := by rw [← hh, Bd.state]; rfl
  have N0 := Fr.nil n0
  have pre0 : ∀ t, Steps p.tables e below (s₁.setTop (mkF m 0 #[.val (.ref a1)] [])) t → Steps p.tables e below (s₁.setTop (entryFrame m #[(.ref a1)] 1)) t := fun t k => castTop (ef_2 m a1) k
  have pre1 : ∀ t, Steps p.tables e below (s₁.setTop (mkF m 1 #[.val (.ref a1)] [(.ref a1)])) t → Steps p.tables e below (s₁.setTop (entryFrame m #[(.ref a1)] 1)) t := by
    intro t k
    refine pre0 t ?_
    refine XS.aloadN X0.here hx rfl (hb hby d2_0) rfl rfl ?_
    show Steps p.tables e below (s₁.setTop (mkF m 1 #[.val (.ref a1)] [(.ref a1)])) _
    exact k
  obtain ⟨T2, X2, e2, st2⟩ := initO X0 hx hZ hown (hw _ (List.mem_of_getElem? (i := 12) rfl)) (hw _ (List.mem_of_getElem? (i := 13) rfl)) (hw _ (List.mem_of_getElem? (i := 14) rfl)) e0 (g := (mkF m 1 #[.val (.ref a1)] [(.ref a1)])) rfl (by rw [hml]; rfl) rfl (hb hby d2_1) (by decide) (W := 0) (by show 2 * 0 + _ ≤ _; exact Nat.le_of_eq rfl) (by decide)
  have pre3 : ∀ t, Steps p.tables e below (T2.setTop (mkF m 4 #[.val (.ref a1)] [])) t → Steps p.tables e below (s₁.setTop (entryFrame m #[(.ref a1)] 1)) t := fun t k => pre1 t (st2 t k)
  obtain ⟨fs, hr, hrun, hended, hW, hsame⟩ := X2.leave (v := none) (fun _ => rfl)
  refine ⟨_, _, pre3 _ ?_, hrun, hended, _, _, rfl, ?_, ⟨_, rfl⟩, hW, hsame.mono (by decide) (by decide)⟩
  · exact X2.returnOut hx Bd.returns (hb hby d2_4) hr
  · show Q2 Z a1 h0 n0 _ T2.heap _
    rw [e2]
    exact ⟨rfl, N0, rfl⟩
theorem pd_sup1 : parseMethodDescriptor "()V" = some ⟨[], none⟩ := by decide +kernel
theorem pn_1 : plainName "com/example/firmline/firmline/Call" = true := by first | (simp [plainName, overriddenIn]; done) | decide +kernel
theorem d1_0 : decode prog_21_method_1_code 0 = .ok (.aload_n 0, 1) := by decide +kernel
theorem d1_1 : decode prog_21_method_1_code 1 = .ok (.invokespecial 3, 3) := by decide +kernel
theorem d1_4 : decode prog_21_method_1_code 4 = .ok (.aload_n 0, 1) := by decide +kernel
theorem d1_5 : decode prog_21_method_1_code 5 = .ok (.iload_n 1, 1) := by decide +kernel
theorem d1_6 : decode prog_21_method_1_code 6 = .ok (.putfield 9, 3) := by decide +kernel
theorem d1_9 : decode prog_21_method_1_code 9 = .ok (.aload_n 0, 1) := by decide +kernel
theorem d1_10 : decode prog_21_method_1_code 10 = .ok (.aload_n 2, 1) := by decide +kernel
theorem d1_11 : decode prog_21_method_1_code 11 = .ok (.putfield 15, 3) := by decide +kernel
theorem d1_14 : decode prog_21_method_1_code 14 = .ok (.aload_n 0, 1) := by decide +kernel
theorem d1_15 : decode prog_21_method_1_code 15 = .ok (.aload_n 3, 1) := by decide +kernel
theorem d1_16 : decode prog_21_method_1_code 16 = .ok (.putfield 19, 3) := by decide +kernel
theorem d1_19 : decode prog_21_method_1_code 19 = .ok (.aload_n 0, 1) := by decide +kernel
theorem d1_20 : decode prog_21_method_1_code 20 = .ok (.lload 4, 2) := by decide +kernel
theorem d1_22 : decode prog_21_method_1_code 22 = .ok (.putfield 23, 3) := by decide +kernel
theorem d1_25 : decode prog_21_method_1_code 25 = .ok (.aload_n 0, 1) := by decide +kernel
theorem d1_26 : decode prog_21_method_1_code 26 = .ok (.lload 6, 2) := by decide +kernel
theorem d1_28 : decode prog_21_method_1_code 28 = .ok (.putfield 27, 3) := by decide +kernel
theorem d1_31 : decode prog_21_method_1_code 31 = .ok (.return_, 1) := by decide +kernel
theorem ef_1 (m : MethodId) (a1 : Addr) (p1 : Int32) (p4 : Int64) (p5 : Int64) : entryFrame m #[(.ref a1), (.int p1), .null, .null, (.long p4), (.long p5)] 8 = mkF m 0 #[.val (.ref a1), .val (.int p1), .val .null, .val .null, .val (.long p4), .second, .val (.long p5), .second] [] := by first | (simp [entryFrame, mkF, argsToLocals, Value.category]; done) | rfl
def Q1 (Z : State) (a1 : Addr) (p1 : Int32) (p4 : Int64) (p5 : Int64) (h0 : Heap) (n0 : Nat) (v : Option Value) (h : Heap) (L : List Loc) : Prop := v = none ∧ Fr n0 L ∧ Keep h0 h [a1] ∧ Fld Z h a1 "com/example/firmline/firmline/Call" "process" "I" (.int p1) ∧ Fld Z h a1 "com/example/firmline/firmline/Call" "operation" "Lcom/example/firmline/firmline/Operation;" .null ∧ Fld Z h a1 "com/example/firmline/firmline/Call" "response" "Ljava/lang/Object;" .null ∧ Fld Z h a1 "com/example/firmline/firmline/Call" "invoked" "J" (.long p4) ∧ Fld Z h a1 "com/example/firmline/firmline/Call" "responded" "J" (.long p5)
set_option maxRecDepth 65536 in
set_option maxHeartbeats 40000000 in
theorem rm1 (l : Launch) (Z : State) (a0 : Array Value) (hw : ∀ d ∈ tables_1, d.before a0 Z = true) (ws : List Jvm.Cond) (a1 : Addr) (p1 : Int32) (p4 : Int64) (p5 : Int64) (h0 : Heap) (n0 : Nat) (Z0 : n0 ≤ h0.size) (E1 : Exa Z h0 a1 "com/example/firmline/firmline/Call") (ga1 : n0 ≤ a1) (Fd0 : Fld Z h0 a1 "com/example/firmline/firmline/Call" "process" "I" (.int (0 : Int32))) (Fd1 : Fld Z h0 a1 "com/example/firmline/firmline/Call" "operation" "Lcom/example/firmline/firmline/Operation;" .null) (Fd2 : Fld Z h0 a1 "com/example/firmline/firmline/Call" "response" "Ljava/lang/Object;" .null) (Fd3 : Fld Z h0 a1 "com/example/firmline/firmline/Call" "invoked" "J" (.long (0 : Int64))) (Fd4 : Fld Z h0 a1 "com/example/firmline/firmline/Call" "responded" "J" (.long (0 : Int64))) :
    MetFree l (⟨"com/example/firmline/firmline/Call", "<init>", "(ILcom/example/firmline/firmline/Operation;Ljava/lang/Object;JJ)V"⟩ : MethodName) (head1 (Jvm.Cond.code (⟨"com/example/firmline/firmline/Call", "<init>", "(ILcom/example/firmline/firmline/Operation;Ljava/lang/Object;JJ)V"⟩ : MethodName) prog_21_method_1_code 8 none :: ws) ({ frames := 2, cells := 0, slots := 0, locals := 24 } : Room)) (fun a U => a = #[(.ref a1), (.int p1), .null, .null, (.long p4), (.long p5)] ∧ Z.Warmed39 U.vm ∧ U.heap = h0) (fun _ _ _ _ _ => True) (fun _ U o U' => ∃ v L, o = .returned v ∧ Q1 Z a1 p1 p4 p5 h0 n0 v U'.heap L ∧ FrameEnd U o U' L ({ frames := 2, cells := 0, slots := 0, locals := 24 } : Room).cells ({ frames := 2, cells := 0, slots := 0, locals := 24 } : Room).slots) := by
  refine MetFree.of_bodySF (plainFor_of_name pn_1) hisR ?_
  intro p e s m args below meth c s₁ Bd hml0 hP hK
  obtain ⟨rfl, hZ, hh⟩ := hP
  have hx := Bd.exec
  have hby := Bd.bytes
  have hml : c.maxLocals = 8 := hml0
  have hown : s.vm.findClass "com/example/firmline/firmline/Call" = some m.cls := findClass_of_methodNamed Bd.named
  have hnm := (name_of_methodNamed Bd.named Bd.method).1
  have X0 : Stand p l e ({ frames := 2, cells := 0, slots := 0, locals := 24 } : Room) s m #[(.ref a1), (.int p1), .null, .null, (.long p4), (.long p5)] below meth c s₁ [] 0 0 := Stand.of_body Bd
  have e0 : s₁.heap = h0 := by rw [← hh, Bd.state]; rfl
  have N0 := Fr.nil n0
  have pre0 : ∀ t, Steps p.tables e below (s₁.setTop (mkF m 0 #[.val (.ref a1), .val (.int p1), .val .null, .val .null, .val (.long p4), .second, .val (.long p5), .second] [])) t → Steps p.tables e below (s₁.setTop (entryFrame m #[(.ref a1), (.int p1), .null, .null, (.long p4), (.long p5)] 8)) t := fun t k => castTop (ef_1 m a1 p1 p4 p5) k
  have pre2 : ∀ t, Steps p.tables e below (s₁.setTop (mkF m 1 #[.val (.ref a1), .val (.int p1), .val .null, .val .null, .val (.long p4), .second, .val (.long p5), .second] [(.ref a1)])) t → Steps p.tables e below (s₁.setTop (entryFrame m #[(.ref a1), (.int p1), .null, .null, (.long p4), (.long p5)] 8)) t := by
    intro t k
    refine pre0 t ?_
    refine XS.aloadN X0.here hx rfl (hb hby d1_0) rfl rfl ?_
    show Steps p.tables e below (s₁.setTop (mkF m 1 #[.val (.ref a1), .val (.int p1), .val .null, .val .null, .val (.long p4), .second, .val (.long p5), .second] [(.ref a1)])) _
    exact k
  have K1 : Keep h0 h0 [a1] := (Keep.refl h0 [a1])
  obtain ⟨_, _, ⟨T3, L3, k3, n3⟩, -, X3, ⟨Lc3, hQ3, l3, y3, z3⟩, st3⟩ := X0.specialBack hx (y := (⟨"java/lang/Record", "<init>", "()V"⟩ : MethodName)) rfl hown (mvT hZ (hw _ (List.mem_of_getElem? (i := 7) rfl))) (mvT hZ (hw _ (List.mem_of_getElem? (i := 8) rfl))) (mvT hZ (hw _ (List.mem_of_getElem? (i := 11) rfl))) (by decide) (backOf (W := 0) (rm2 l Z a0 hw [] a1 h0 n0 Z0) hZ (hw _ (List.mem_of_getElem? (i := 11) rfl)) (hw _ (List.mem_of_getElem? (i := 10) rfl)) (by decide) (by decide)) (g := (mkF m 1 #[.val (.ref a1), .val (.int p1), .val .null, .val .null, .val (.long p4), .second, .val (.long p5), .second] [(.ref a1)])) rfl (by rw [hml]; rfl) (Steps.refl _) (a := a1) (argsL := []) (rest := []) (lenOf pd_sup1 rfl) rfl (by show 2 * 0 + _ ≤ _; exact Nat.le_of_eq rfl) (hb hby d1_1) (fun _ _ => ⟨rfl, e0, (by decide : 0 + 0 ≤ _), (by decide : 0 + 0 ≤ _)⟩)
  dsimp only [Pt.U, Pt.locs, Pt.cells, Pt.slots] at X3 l3 y3 z3 st3 hQ3
  subst l3 y3 z3
  obtain ⟨rfl, Nq3, heq3⟩ := hQ3
  have N3 := Fr.app N0 Nq3
  have pre4 : ∀ t, Steps p.tables e below (T3.setTop (mkF m 4 #[.val (.ref a1), .val (.int p1), .val .null, .val .null, .val (.long p4), .second, .val (.long p5), .second] [])) t → Steps p.tables e below (s₁.setTop (entryFrame m #[(.ref a1), (.int p1), .null, .null, (.long p4), (.long p5)] 8)) t := fun t k => pre2 t (st3.trans k)
  have pre6 : ∀ t, Steps p.tables e below (T3.setTop (mkF m 6 #[.val (.ref a1), .val (.int p1), .val .null, .val .null, .val (.long p4), .second, .val (.long p5), .second] [(.int p1), (.ref a1)])) t → Steps p.tables e below (s₁.setTop (entryFrame m #[(.ref a1), (.int p1), .null, .null, (.long p4), (.long p5)] 8)) t := by
    intro t k
    refine pre4 t ?_
    refine XS.aloadN X3.here hx rfl (hb hby d1_4) rfl rfl ?_
    show Steps p.tables e below (T3.setTop (mkF m 5 #[.val (.ref a1), .val (.int p1), .val .null, .val .null, .val (.long p4), .second, .val (.long p5), .second] [(.ref a1)])) _
    refine XS.iloadN X3.here hx rfl (hb hby d1_5) rfl ?_
    show Steps p.tables e below (T3.setTop (mkF m 6 #[.val (.ref a1), .val (.int p1), .val .null, .val .null, .val (.long p4), .second, .val (.long p5), .second] [(.int p1), (.ref a1)])) _
    exact k
  obtain ⟨T7, h7, X7, e7, W7, st7⟩ := putF X3 hx hZ hown (host := "") (Or.inl (hw _ (List.mem_of_getElem? (i := 15) rfl))) Via.refl heq3 Fd0 E1 (Or.inr ⟨(hw _ (List.mem_of_getElem? (i := 16) rfl)), rfl, hnm⟩) (hw _ (List.mem_of_getElem? (i := 2) rfl)) (ty := .int) (by decide) rfl rfl (g := (mkF m 6 #[.val (.ref a1), .val (.int p1), .val .null, .val .null, .val (.long p4), .second, .val (.long p5), .second] [(.int p1), (.ref a1)])) rfl rfl (hb hby d1_6)
  have N7 := Fr.snoc X7 N3 ga1
  have pre8 : ∀ t, Steps p.tables e below (T7.setTop (mkF m 9 #[.val (.ref a1), .val (.int p1), .val .null, .val .null, .val (.long p4), .second, .val (.long p5), .second] [])) t → Steps p.tables e below (s₁.setTop (entryFrame m #[(.ref a1), (.int p1), .null, .null, (.long p4), (.long p5)] 8)) t := fun t k => pre6 t (st7 t k)
  have F9_0 : Fld Z h7 a1 "com/example/firmline/firmline/Call" "process" "I" (.int p1) := (Fd0.same W7)
  have F9_1 : Fld Z h7 a1 "com/example/firmline/firmline/Call" "operation" "Lcom/example/firmline/firmline/Operation;" .null := (Fd1.other W7 (Or.inr (slot_ne (Or.inr (hw _ (List.mem_of_getElem? (i := 18) rfl))) (Or.inr (hw _ (List.mem_of_getElem? (i := 16) rfl))) (by decide) (t := (.object "com/example/firmline/firmline/Operation")) (t' := .int) (by decide) (by decide))))
  have F9_2 : Fld Z h7 a1 "com/example/firmline/firmline/Call" "response" "Ljava/lang/Object;" .null := (Fd2.other W7 (Or.inr (slot_ne (Or.inr (hw _ (List.mem_of_getElem? (i := 20) rfl))) (Or.inr (hw _ (List.mem_of_getElem? (i := 16) rfl))) (by decide) (t := (.object "java/lang/Object")) (t' := .int) (by decide) (by decide))))
  have F9_3 : Fld Z h7 a1 "com/example/firmline/firmline/Call" "invoked" "J" (.long (0 : Int64)) := (Fd3.other W7 (Or.inr (slot_ne (Or.inr (hw _ (List.mem_of_getElem? (i := 22) rfl))) (Or.inr (hw _ (List.mem_of_getElem? (i := 16) rfl))) (by decide) (t := .long) (t' := .int) (by decide) (by decide))))
  have F9_4 : Fld Z h7 a1 "com/example/firmline/firmline/Call" "responded" "J" (.long (0 : Int64)) := (Fd4.other W7 (Or.inr (slot_ne (Or.inr (hw _ (List.mem_of_getElem? (i := 24) rfl))) (Or.inr (hw _ (List.mem_of_getElem? (i := 16) rfl))) (by decide) (t := .long) (t' := .int) (by decide) (by decide))))
  have E9_0 : Exa Z h7 a1 "com/example/firmline/firmline/Call" := (E1.wr W7)
  have K9 : Keep h0 h7 [a1] := (K1.wr W7 (Or.inl (List.mem_of_getElem? (i := 0) rfl)))
  have Z9 : n0 ≤ h7.size := (Nat.le_trans Z0 (Nat.le_of_eq W7.size.symm))
  have pre11 : ∀ t, Steps p.tables e below (T7.setTop (mkF m 11 #[.val (.ref a1), .val (.int p1), .val .null, .val .null, .val (.long p4), .second, .val (.long p5), .second] [.null, (.ref a1)])) t → Steps p.tables e below (s₁.setTop (entryFrame m #[(.ref a1), (.int p1), .null, .null, (.long p4), (.long p5)] 8)) t := by
    intro t k
    refine pre8 t ?_
    refine XS.aloadN X7.here hx rfl (hb hby d1_9) rfl rfl ?_
    show Steps p.tables e below (T7.setTop (mkF m 10 #[.val (.ref a1), .val (.int p1), .val .null, .val .null, .val (.long p4), .second, .val (.long p5), .second] [(.ref a1)])) _
    refine XS.aloadN X7.here hx rfl (hb hby d1_10) rfl rfl ?_
    show Steps p.tables e below (T7.setTop (mkF m 11 #[.val (.ref a1), .val (.int p1), .val .null, .val .null, .val (.long p4), .second, .val (.long p5), .second] [.null, (.ref a1)])) _
    exact k
  obtain ⟨T12, h12, X12, e12, W12, st12⟩ := putF X7 hx hZ hown (host := "") (Or.inl (hw _ (List.mem_of_getElem? (i := 17) rfl))) Via.refl e7 F9_1 E9_0 (Or.inr ⟨(hw _ (List.mem_of_getElem? (i := 18) rfl)), rfl, hnm⟩) (hw _ (List.mem_of_getElem? (i := 2) rfl)) (ty := (.object "com/example/firmline/firmline/Operation")) (by decide) rfl rfl (g := (mkF m 11 #[.val (.ref a1), .val (.int p1), .val .null, .val .null, .val (.long p4), .second, .val (.long p5), .second] [.null, (.ref a1)])) rfl rfl (hb hby d1_11)
  have N12 := Fr.snoc X12 N7 ga1
  have pre13 : ∀ t, Steps p.tables e below (T12.setTop (mkF m 14 #[.val (.ref a1), .val (.int p1), .val .null, .val .null, .val (.long p4), .second, .val (.long p5), .second] [])) t → Steps p.tables e below (s₁.setTop (entryFrame m #[(.ref a1), (.int p1), .null, .null, (.long p4), (.long p5)] 8)) t := fun t k => pre11 t (st12 t k)
  have F14_0 : Fld Z h12 a1 "com/example/firmline/firmline/Call" "process" "I" (.int p1) := (F9_0.other W12 (Or.inr (slot_ne (Or.inr (hw _ (List.mem_of_getElem? (i := 16) rfl))) (Or.inr (hw _ (List.mem_of_getElem? (i := 18) rfl))) (by decide) (t := .int) (t' := (.object "com/example/firmline/firmline/Operation")) (by decide) (by decide))))
  have F14_1 : Fld Z h12 a1 "com/example/firmline/firmline/Call" "operation" "Lcom/example/firmline/firmline/Operation;" .null := (F9_1.same W12)
  have F14_2 : Fld Z h12 a1 "com/example/firmline/firmline/Call" "response" "Ljava/lang/Object;" .null := (F9_2.other W12 (Or.inr (slot_ne (Or.inr (hw _ (List.mem_of_getElem? (i := 20) rfl))) (Or.inr (hw _ (List.mem_of_getElem? (i := 18) rfl))) (by decide) (t := (.object "java/lang/Object")) (t' := (.object "com/example/firmline/firmline/Operation")) (by decide) (by decide))))
  have F14_3 : Fld Z h12 a1 "com/example/firmline/firmline/Call" "invoked" "J" (.long (0 : Int64)) := (F9_3.other W12 (Or.inr (slot_ne (Or.inr (hw _ (List.mem_of_getElem? (i := 22) rfl))) (Or.inr (hw _ (List.mem_of_getElem? (i := 18) rfl))) (by decide) (t := .long) (t' := (.object "com/example/firmline/firmline/Operation")) (by decide) (by decide))))
  have F14_4 : Fld Z h12 a1 "com/example/firmline/firmline/Call" "responded" "J" (.long (0 : Int64)) := (F9_4.other W12 (Or.inr (slot_ne (Or.inr (hw _ (List.mem_of_getElem? (i := 24) rfl))) (Or.inr (hw _ (List.mem_of_getElem? (i := 18) rfl))) (by decide) (t := .long) (t' := (.object "com/example/firmline/firmline/Operation")) (by decide) (by decide))))
  have E14_0 : Exa Z h12 a1 "com/example/firmline/firmline/Call" := (E9_0.wr W12)
  have K14 : Keep h0 h12 [a1] := (K9.wr W12 (Or.inl (List.mem_of_getElem? (i := 0) rfl)))
  have Z14 : n0 ≤ h12.size := (Nat.le_trans Z9 (Nat.le_of_eq W12.size.symm))
  have pre16 : ∀ t, Steps p.tables e below (T12.setTop (mkF m 16 #[.val (.ref a1), .val (.int p1), .val .null, .val .null, .val (.long p4), .second, .val (.long p5), .second] [.null, (.ref a1)])) t → Steps p.tables e below (s₁.setTop (entryFrame m #[(.ref a1), (.int p1), .null, .null, (.long p4), (.long p5)] 8)) t := by
    intro t k
    refine pre13 t ?_
    refine XS.aloadN X12.here hx rfl (hb hby d1_14) rfl rfl ?_
    show Steps p.tables e below (T12.setTop (mkF m 15 #[.val (.ref a1), .val (.int p1), .val .null, .val .null, .val (.long p4), .second, .val (.long p5), .second] [(.ref a1)])) _
    refine XS.aloadN X12.here hx rfl (hb hby d1_15) rfl rfl ?_
    show Steps p.tables e below (T12.setTop (mkF m 16 #[.val (.ref a1), .val (.int p1), .val .null, .val .null, .val (.long p4), .second, .val (.long p5), .second] [.null, (.ref a1)])) _
    exact k
  obtain ⟨T17, h17, X17, e17, W17, st17⟩ := putF X12 hx hZ hown (host := "") (Or.inl (hw _ (List.mem_of_getElem? (i := 19) rfl))) Via.refl e12 F14_2 E14_0 (Or.inr ⟨(hw _ (List.mem_of_getElem? (i := 20) rfl)), rfl, hnm⟩) (hw _ (List.mem_of_getElem? (i := 2) rfl)) (ty := (.object "java/lang/Object")) (by decide) rfl rfl (g := (mkF m 16 #[.val (.ref a1), .val (.int p1), .val .null, .val .null, .val (.long p4), .second, .val (.long p5), .second] [.null, (.ref a1)])) rfl rfl (hb hby d1_16)
  have N17 := Fr.snoc X17 N12 ga1
  have pre18 : ∀ t, Steps p.tables e below (T17.setTop (mkF m 19 #[.val (.ref a1), .val (.int p1), .val .null, .val .null, .val (.long p4), .second, .val (.long p5), .second] [])) t → Steps p.tables e below (s₁.setTop (entryFrame m #[(.ref a1), (.int p1), .null, .null, (.long p4), (.long p5)] 8)) t := fun t k => pre16 t (st17 t k)
  have F19_0 : Fld Z h17 a1 "com/example/firmline/firmline/Call" "process" "I" (.int p1) := (F14_0.other W17 (Or.inr (slot_ne (Or.inr (hw _ (List.mem_of_getElem? (i := 16) rfl))) (Or.inr (hw _ (List.mem_of_getElem? (i := 20) rfl))) (by decide) (t := .int) (t' := (.object "java/lang/Object")) (by decide) (by decide))))
  have F19_1 : Fld Z h17 a1 "com/example/firmline/firmline/Call" "operation" "Lcom/example/firmline/firmline/Operation;" .null := (F14_1.other W17 (Or.inr (slot_ne (Or.inr (hw _ (List.mem_of_getElem? (i := 18) rfl))) (Or.inr (hw _ (List.mem_of_getElem? (i := 20) rfl))) (by decide) (t := (.object "com/example/firmline/firmline/Operation")) (t' := (.object "java/lang/Object")) (by decide) (by decide))))
  have F19_2 : Fld Z h17 a1 "com/example/firmline/firmline/Call" "response" "Ljava/lang/Object;" .null := (F14_2.same W17)
  have F19_3 : Fld Z h17 a1 "com/example/firmline/firmline/Call" "invoked" "J" (.long (0 : Int64)) := (F14_3.other W17 (Or.inr (slot_ne (Or.inr (hw _ (List.mem_of_getElem? (i := 22) rfl))) (Or.inr (hw _ (List.mem_of_getElem? (i := 20) rfl))) (by decide) (t := .long) (t' := (.object "java/lang/Object")) (by decide) (by decide))))
  have F19_4 : Fld Z h17 a1 "com/example/firmline/firmline/Call" "responded" "J" (.long (0 : Int64)) := (F14_4.other W17 (Or.inr (slot_ne (Or.inr (hw _ (List.mem_of_getElem? (i := 24) rfl))) (Or.inr (hw _ (List.mem_of_getElem? (i := 20) rfl))) (by decide) (t := .long) (t' := (.object "java/lang/Object")) (by decide) (by decide))))
  have E19_0 : Exa Z h17 a1 "com/example/firmline/firmline/Call" := (E14_0.wr W17)
  have K19 : Keep h0 h17 [a1] := (K14.wr W17 (Or.inl (List.mem_of_getElem? (i := 0) rfl)))
  have Z19 : n0 ≤ h17.size := (Nat.le_trans Z14 (Nat.le_of_eq W17.size.symm))
  have pre21 : ∀ t, Steps p.tables e below (T17.setTop (mkF m 22 #[.val (.ref a1), .val (.int p1), .val .null, .val .null, .val (.long p4), .second, .val (.long p5), .second] [(.long p4), (.ref a1)])) t → Steps p.tables e below (s₁.setTop (entryFrame m #[(.ref a1), (.int p1), .null, .null, (.long p4), (.long p5)] 8)) t := by
    intro t k
    refine pre18 t ?_
    refine XS.aloadN X17.here hx rfl (hb hby d1_19) rfl rfl ?_
    show Steps p.tables e below (T17.setTop (mkF m 20 #[.val (.ref a1), .val (.int p1), .val .null, .val .null, .val (.long p4), .second, .val (.long p5), .second] [(.ref a1)])) _
    refine XT.lload X17.here hx rfl (hb hby d1_20) rfl ?_
    show Steps p.tables e below (T17.setTop (mkF m 22 #[.val (.ref a1), .val (.int p1), .val .null, .val .null, .val (.long p4), .second, .val (.long p5), .second] [(.long p4), (.ref a1)])) _
    exact k
  obtain ⟨T22, h22, X22, e22, W22, st22⟩ := putF X17 hx hZ hown (host := "") (Or.inl (hw _ (List.mem_of_getElem? (i := 21) rfl))) Via.refl e17 F19_3 E19_0 (Or.inr ⟨(hw _ (List.mem_of_getElem? (i := 22) rfl)), rfl, hnm⟩) (hw _ (List.mem_of_getElem? (i := 2) rfl)) (ty := .long) (by decide) rfl rfl (g := (mkF m 22 #[.val (.ref a1), .val (.int p1), .val .null, .val .null, .val (.long p4), .second, .val (.long p5), .second] [(.long p4), (.ref a1)])) rfl rfl (hb hby d1_22)
  have N22 := Fr.snoc X22 N17 ga1
  have pre23 : ∀ t, Steps p.tables e below (T22.setTop (mkF m 25 #[.val (.ref a1), .val (.int p1), .val .null, .val .null, .val (.long p4), .second, .val (.long p5), .second] [])) t → Steps p.tables e below (s₁.setTop (entryFrame m #[(.ref a1), (.int p1), .null, .null, (.long p4), (.long p5)] 8)) t := fun t k => pre21 t (st22 t k)
  have F24_0 : Fld Z h22 a1 "com/example/firmline/firmline/Call" "process" "I" (.int p1) := (F19_0.other W22 (Or.inr (slot_ne (Or.inr (hw _ (List.mem_of_getElem? (i := 16) rfl))) (Or.inr (hw _ (List.mem_of_getElem? (i := 22) rfl))) (by decide) (t := .int) (t' := .long) (by decide) (by decide))))
  have F24_1 : Fld Z h22 a1 "com/example/firmline/firmline/Call" "operation" "Lcom/example/firmline/firmline/Operation;" .null := (F19_1.other W22 (Or.inr (slot_ne (Or.inr (hw _ (List.mem_of_getElem? (i := 18) rfl))) (Or.inr (hw _ (List.mem_of_getElem? (i := 22) rfl))) (by decide) (t := (.object "com/example/firmline/firmline/Operation")) (t' := .long) (by decide) (by decide))))
  have F24_2 : Fld Z h22 a1 "com/example/firmline/firmline/Call" "response" "Ljava/lang/Object;" .null := (F19_2.other W22 (Or.inr (slot_ne (Or.inr (hw _ (List.mem_of_getElem? (i := 20) rfl))) (Or.inr (hw _ (List.mem_of_getElem? (i := 22) rfl))) (by decide) (t := (.object "java/lang/Object")) (t' := .long) (by decide) (by decide))))
  have F24_3 : Fld Z h22 a1 "com/example/firmline/firmline/Call" "invoked" "J" (.long p4) := (F19_3.same W22)
  have F24_4 : Fld Z h22 a1 "com/example/firmline/firmline/Call" "responded" "J" (.long (0 : Int64)) := (F19_4.other W22 (Or.inr (slot_ne (Or.inr (hw _ (List.mem_of_getElem? (i := 24) rfl))) (Or.inr (hw _ (List.mem_of_getElem? (i := 22) rfl))) (by decide) (t := .long) (t' := .long) (by decide) (by decide))))
  have E24_0 : Exa Z h22 a1 "com/example/firmline/firmline/Call" := (E19_0.wr W22)
  have K24 : Keep h0 h22 [a1] := (K19.wr W22 (Or.inl (List.mem_of_getElem? (i := 0) rfl)))
  have Z24 : n0 ≤ h22.size := (Nat.le_trans Z19 (Nat.le_of_eq W22.size.symm))
  have pre26 : ∀ t, Steps p.tables e below (T22.setTop (mkF m 28 #[.val (.ref a1), .val (.int p1), .val .null, .val .null, .val (.long p4), .second, .val (.long p5), .second] [(.long p5), (.ref a1)])) t → Steps p.tables e below (s₁.setTop (entryFrame m #[(.ref a1), (.int p1), .null, .null, (.long p4), (.long p5)] 8)) t := by
    intro t k
    refine pre23 t ?_
    refine XS.aloadN X22.here hx rfl (hb hby d1_25) rfl rfl ?_
    show Steps p.tables e below (T22.setTop (mkF m 26 #[.val (.ref a1), .val (.int p1), .val .null, .val .null, .val (.long p4), .second, .val (.long p5), .second] [(.ref a1)])) _
    refine XT.lload X22.here hx rfl (hb hby d1_26) rfl ?_
    show Steps p.tables e below (T22.setTop (mkF m 28 #[.val (.ref a1), .val (.int p1), .val .null, .val .null, .val (.long p4), .second, .val (.long p5), .second] [(.long p5), (.ref a1)])) _
    exact k
  obtain ⟨T27, h27, X27, e27, W27, st27⟩ := putF X22 hx hZ hown (host := "") (Or.inl (hw _ (List.mem_of_getElem? (i := 23) rfl))) Via.refl e22 F24_4 E24_0 (Or.inr ⟨(hw _ (List.mem_of_getElem? (i := 24) rfl)), rfl, hnm⟩) (hw _ (List.mem_of_getElem? (i := 2) rfl)) (ty := .long) (by decide) rfl rfl (g := (mkF m 28 #[.val (.ref a1), .val (.int p1), .val .null, .val .null, .val (.long p4), .second, .val (.long p5), .second] [(.long p5), (.ref a1)])) rfl rfl (hb hby d1_28)
  have N27 := Fr.snoc X27 N22 ga1
  have pre28 : ∀ t, Steps p.tables e below (T27.setTop (mkF m 31 #[.val (.ref a1), .val (.int p1), .val .null, .val .null, .val (.long p4), .second, .val (.long p5), .second] [])) t → Steps p.tables e below (s₁.setTop (entryFrame m #[(.ref a1), (.int p1), .null, .null, (.long p4), (.long p5)] 8)) t := fun t k => pre26 t (st27 t k)
  have F29_0 : Fld Z h27 a1 "com/example/firmline/firmline/Call" "process" "I" (.int p1) := (F24_0.other W27 (Or.inr (slot_ne (Or.inr (hw _ (List.mem_of_getElem? (i := 16) rfl))) (Or.inr (hw _ (List.mem_of_getElem? (i := 24) rfl))) (by decide) (t := .int) (t' := .long) (by decide) (by decide))))
  have F29_1 : Fld Z h27 a1 "com/example/firmline/firmline/Call" "operation" "Lcom/example/firmline/firmline/Operation;" .null := (F24_1.other W27 (Or.inr (slot_ne (Or.inr (hw _ (List.mem_of_getElem? (i := 18) rfl))) (Or.inr (hw _ (List.mem_of_getElem? (i := 24) rfl))) (by decide) (t := (.object "com/example/firmline/firmline/Operation")) (t' := .long) (by decide) (by decide))))
  have F29_2 : Fld Z h27 a1 "com/example/firmline/firmline/Call" "response" "Ljava/lang/Object;" .null := (F24_2.other W27 (Or.inr (slot_ne (Or.inr (hw _ (List.mem_of_getElem? (i := 20) rfl))) (Or.inr (hw _ (List.mem_of_getElem? (i := 24) rfl))) (by decide) (t := (.object "java/lang/Object")) (t' := .long) (by decide) (by decide))))
  have F29_3 : Fld Z h27 a1 "com/example/firmline/firmline/Call" "invoked" "J" (.long p4) := (F24_3.other W27 (Or.inr (slot_ne (Or.inr (hw _ (List.mem_of_getElem? (i := 22) rfl))) (Or.inr (hw _ (List.mem_of_getElem? (i := 24) rfl))) (by decide) (t := .long) (t' := .long) (by decide) (by decide))))
  have F29_4 : Fld Z h27 a1 "com/example/firmline/firmline/Call" "responded" "J" (.long p5) := (F24_4.same W27)
  have E29_0 : Exa Z h27 a1 "com/example/firmline/firmline/Call" := (E24_0.wr W27)
  have K29 : Keep h0 h27 [a1] := (K24.wr W27 (Or.inl (List.mem_of_getElem? (i := 0) rfl)))
  have Z29 : n0 ≤ h27.size := (Nat.le_trans Z24 (Nat.le_of_eq W27.size.symm))
  obtain ⟨fs, hr, hrun, hended, hW, hsame⟩ := X27.leave (v := none) (fun _ => rfl)
  refine ⟨_, _, pre28 _ ?_, hrun, hended, _, _, rfl, ?_, ⟨_, rfl⟩, hW, hsame.mono (by decide) (by decide)⟩
  · exact X27.returnOut hx Bd.returns (hb hby d1_31) hr
  · show Q1 Z a1 p1 p4 p5 h0 n0 _ T27.heap _
    rw [e27]
    exact ⟨rfl, N27, K29, F29_0, F29_1, F29_2, F29_3, F29_4⟩
theorem pd_iniC : parseMethodDescriptor "(ILcom/example/firmline/firmline/Operation;Ljava/lang/Object;JJ)V" = some ⟨[.int, (.object "com/example/firmline/firmline/Operation"), (.object "java/lang/Object"), .long, .long], none⟩ := by decide +kernel
theorem pn_5 : plainName "com/example/firmline/firmline/Call" = true := by first | (simp [plainName, overriddenIn]; done) | decide +kernel
theorem d5_0 : decode prog_21_method_2_code 0 = .ok (.new 10, 3) := by decide +kernel
theorem d5_3 : decode prog_21_method_2_code 3 = .ok (.dup, 1) := by decide +kernel
theorem d5_4 : decode prog_21_method_2_code 4 = .ok (.iload_n 0, 1) := by decide +kernel
theorem d5_5 : decode prog_21_method_2_code 5 = .ok (.aload_n 1, 1) := by decide +kernel
theorem d5_6 : decode prog_21_method_2_code 6 = .ok (.aconst_null, 1) := by decide +kernel
theorem d5_7 : decode prog_21_method_2_code 7 = .ok (.lload_n 2, 1) := by decide +kernel
theorem d5_8 : decode prog_21_method_2_code 8 = .ok (.ldc2_w 30, 3) := by decide +kernel
theorem d5_11 : decode prog_21_method_2_code 11 = .ok (.invokespecial 32, 3) := by decide +kernel
theorem d5_14 : decode prog_21_method_2_code 14 = .ok (.areturn, 1) := by decide +kernel
theorem ef_5 (m : MethodId) (p1 : Int32) (p3 : Int64) : entryFrame m #[(.int p1), .null, (.long p3)] 4 = mkF m 0 #[.val (.int p1), .val .null, .val (.long p3), .second] [] := by first | (simp [entryFrame, mkF, argsToLocals, Value.category]; done) | rfl
def Q5 (Z : State) (p1 : Int32) (p3 : Int64) (h0 : Heap) (n0 : Nat) (v : Option Value) (h : Heap) (L : List Loc) : Prop := ∃ b : Addr, v = some (.ref b) ∧ Fr n0 L ∧ Keep h0 h [] ∧ h0.size ≤ b ∧ Exa Z h b "com/example/firmline/firmline/Call" ∧ Fld Z h b "com/example/firmline/firmline/Call" "invoked" "J" (.long p3) ∧ Fld Z h b "com/example/firmline/firmline/Call" "responded" "J" (.long (9223372036854775807 : Int64))
set_option maxRecDepth 65536 in
set_option maxHeartbeats 40000000 in
theorem rm5 (l : Launch) (Z : State) (a0 : Array Value) (hw : ∀ d ∈ tables_1, d.before a0 Z = true) (ws : List Jvm.Cond) (p1 : Int32) (p3 : Int64) (h0 : Heap) (n0 : Nat) (Z0 : n0 ≤ h0.size) :
    MetFree l (⟨"com/example/firmline/firmline/Call", "pending", "(ILcom/example/firmline/firmline/Operation;J)Lcom/example/firmline/firmline/Call;"⟩ : MethodName) (head1 (Jvm.Cond.code (⟨"com/example/firmline/firmline/Call", "pending", "(ILcom/example/firmline/firmline/Operation;J)Lcom/example/firmline/firmline/Call;"⟩ : MethodName) prog_21_method_2_code 4 (some (.object "com/example/firmline/firmline/Call")) :: ws) ({ frames := 3, cells := 1, slots := 5, locals := 44 } : Room)) (fun a U => a = #[(.int p1), .null, (.long p3)] ∧ Z.Warmed39 U.vm ∧ U.heap = h0) (fun _ _ _ _ _ => True) (fun _ U o U' => ∃ v L, o = .returned v ∧ Q5 Z p1 p3 h0 n0 v U'.heap L ∧ FrameEnd U o U' L ({ frames := 3, cells := 1, slots := 5, locals := 44 } : Room).cells ({ frames := 3, cells := 1, slots := 5, locals := 44 } : Room).slots) := by
  refine MetFree.of_bodySF (plainFor_of_name pn_5) hisR ?_
  intro p e s m args below meth c s₁ Bd hml0 hP hK
  obtain ⟨rfl, hZ, hh⟩ := hP
  have hx := Bd.exec
  have hby := Bd.bytes
  have hml : c.maxLocals = 4 := hml0
  have hown : s.vm.findClass "com/example/firmline/firmline/Call" = some m.cls := findClass_of_methodNamed Bd.named
  have hnm := (name_of_methodNamed Bd.named Bd.method).1
  have X0 : Stand p l e ({ frames := 3, cells := 1, slots := 5, locals := 44 } : Room) s m #[(.int p1), .null, (.long p3)] below meth c s₁ [] 0 0 := Stand.of_body Bd
  have e0 : s₁.heap = h0 := by rw [← hh, Bd.state]; rfl
  have N0 := Fr.nil n0
  have pre0 : ∀ t, Steps p.tables e below (s₁.setTop (mkF m 0 #[.val (.int p1), .val .null, .val (.long p3), .second] [])) t → Steps p.tables e below (s₁.setTop (entryFrame m #[(.int p1), .null, (.long p3)] 4)) t := fun t k => castTop (ef_5 m p1 p3) k
  have K1 : Keep h0 h0 [] := (Keep.refl h0 [])
  obtain ⟨T2, h2, X2, e2, E2, A2, D2, -, st2⟩ := newO X0 hx hZ hown (hw _ (List.mem_of_getElem? (i := 34) rfl)) (hw _ (List.mem_of_getElem? (i := 2) rfl)) (hw _ (List.mem_of_getElem? (i := 3) rfl)) e0 (g := (mkF m 0 #[.val (.int p1), .val .null, .val (.long p3), .second] [])) rfl (hb hby d5_0) (by decide) (by decide)
  obtain ⟨b, gz2⟩ : ∃ z, z = h0.size := ⟨_, rfl⟩
  rw [← gz2] at A2 D2 st2
  have g_b : n0 ≤ b := Nat.le_trans Z0 (Nat.le_of_eq gz2.symm)
  have s_b : h0.size ≤ b := Nat.le_trans K1.1 (Nat.le_of_eq gz2.symm)
  have F_process_b : Fld Z h2 b "com/example/firmline/firmline/Call" "process" "I" (.int (0 : Int32)) := D2 (Or.inr (hw _ (List.mem_of_getElem? (i := 16) rfl))) (ty := .int) (by decide)
  have F_operation_b : Fld Z h2 b "com/example/firmline/firmline/Call" "operation" "Lcom/example/firmline/firmline/Operation;" .null := D2 (Or.inr (hw _ (List.mem_of_getElem? (i := 18) rfl))) (ty := (.object "com/example/firmline/firmline/Operation")) (by decide)
  have F_response_b : Fld Z h2 b "com/example/firmline/firmline/Call" "response" "Ljava/lang/Object;" .null := D2 (Or.inr (hw _ (List.mem_of_getElem? (i := 20) rfl))) (ty := (.object "java/lang/Object")) (by decide)
  have F_invoked_b : Fld Z h2 b "com/example/firmline/firmline/Call" "invoked" "J" (.long (0 : Int64)) := D2 (Or.inr (hw _ (List.mem_of_getElem? (i := 22) rfl))) (ty := .long) (by decide)
  have F_responded_b : Fld Z h2 b "com/example/firmline/firmline/Call" "responded" "J" (.long (0 : Int64)) := D2 (Or.inr (hw _ (List.mem_of_getElem? (i := 24) rfl))) (ty := .long) (by decide)
  have pre3 : ∀ t, Steps p.tables e below (T2.setTop (mkF m 3 #[.val (.int p1), .val .null, .val (.long p3), .second] [(.ref b)])) t → Steps p.tables e below (s₁.setTop (entryFrame m #[(.int p1), .null, (.long p3)] 4)) t := fun t k => pre0 t (st2 t k)
  have K4 : Keep h0 h2 [] := (K1.ext E2)
  have Z4 : n0 ≤ h2.size := (Nat.le_trans Z0 E2.1)
  have pre6 : ∀ t, Steps p.tables e below (T2.setTop (mkF m 11 #[.val (.int p1), .val .null, .val (.long p3), .second] [(.long (9223372036854775807 : Int64)), (.long p3), .null, .null, (.int p1), (.ref b), (.ref b)])) t → Steps p.tables e below (s₁.setTop (entryFrame m #[(.int p1), .null, (.long p3)] 4)) t := by
    intro t k
    refine pre3 t ?_
    refine XS.dup X2.here hx rfl (hb hby d5_3) rfl rfl ?_
    show Steps p.tables e below (T2.setTop (mkF m 4 #[.val (.int p1), .val .null, .val (.long p3), .second] [(.ref b), (.ref b)])) _
    refine XS.iloadN X2.here hx rfl (hb hby d5_4) rfl ?_
    show Steps p.tables e below (T2.setTop (mkF m 5 #[.val (.int p1), .val .null, .val (.long p3), .second] [(.int p1), (.ref b), (.ref b)])) _
    refine XS.aloadN X2.here hx rfl (hb hby d5_5) rfl rfl ?_
    show Steps p.tables e below (T2.setTop (mkF m 6 #[.val (.int p1), .val .null, .val (.long p3), .second] [.null, (.int p1), (.ref b), (.ref b)])) _
    refine XS.aconstNull X2.here hx rfl (hb hby d5_6) ?_
    show Steps p.tables e below (T2.setTop (mkF m 7 #[.val (.int p1), .val .null, .val (.long p3), .second] [.null, .null, (.int p1), (.ref b), (.ref b)])) _
    refine XT.lloadN X2.here hx rfl (hb hby d5_7) rfl ?_
    show Steps p.tables e below (T2.setTop (mkF m 8 #[.val (.int p1), .val .null, .val (.long p3), .second] [(.long p3), .null, .null, (.int p1), (.ref b), (.ref b)])) _
    refine Stand.ldc2J X2 hx hown (mvT hZ (hw _ (List.mem_of_getElem? (i := 30) rfl))) rfl (hb hby d5_8) ?_
    show Steps p.tables e below (T2.setTop (mkF m 11 #[.val (.int p1), .val .null, .val (.long p3), .second] [(.long (9223372036854775807 : Int64)), (.long p3), .null, .null, (.int p1), (.ref b), (.ref b)])) _
    exact k
  obtain ⟨_, _, ⟨T8, L8, k8, n8⟩, -, X8, ⟨Lc8, hQ8, l8, y8, z8⟩, st8⟩ := X2.specialBack hx (y := (⟨"com/example/firmline/firmline/Call", "<init>", "(ILcom/example/firmline/firmline/Operation;Ljava/lang/Object;JJ)V"⟩ : MethodName)) rfl hown (mvT hZ (hw _ (List.mem_of_getElem? (i := 35) rfl))) (mvT hZ (hw _ (List.mem_of_getElem? (i := 5) rfl))) (mvT hZ (hw _ (List.mem_of_getElem? (i := 6) rfl))) (by decide) (backOf (W := 1) (rm1 l Z a0 hw [] b p1 p3 (9223372036854775807 : Int64) h2 n0 Z4 A2 g_b  F_process_b F_operation_b F_response_b F_invoked_b F_responded_b) hZ (hw _ (List.mem_of_getElem? (i := 6) rfl)) (hw _ (List.mem_of_getElem? (i := 3) rfl)) (by decide) (by decide)) (g := (mkF m 11 #[.val (.int p1), .val .null, .val (.long p3), .second] [(.long (9223372036854775807 : Int64)), (.long p3), .null, .null, (.int p1), (.ref b), (.ref b)])) rfl (by rw [hml]; rfl) (Steps.refl _) (a := b) (argsL := [(.int p1), .null, .null, (.long p3), (.long (9223372036854775807 : Int64))]) (rest := [(.ref b)]) (lenOf pd_iniC rfl) rfl (by show 2 * 0 + _ ≤ _; exact Nat.le_of_eq rfl) (hb hby d5_11) (fun _ _ => ⟨rfl, e2, (by decide : 1 + 0 ≤ _), (by decide : 5 + 0 ≤ _)⟩)
  dsimp only [Pt.U, Pt.locs, Pt.cells, Pt.slots] at X8 l8 y8 z8 st8 hQ8
  subst l8 y8 z8
  obtain ⟨rfl, Nq8, Kq8, Fx0_8, Fx1_8, Fx2_8, Fx3_8, Fx4_8⟩ := hQ8
  have N8 := Fr.app N0 Nq8
  have pre9 : ∀ t, Steps p.tables e below (T8.setTop (mkF m 14 #[.val (.int p1), .val .null, .val (.long p3), .second] [(.ref b)])) t → Steps p.tables e below (s₁.setTop (entryFrame m #[(.int p1), .null, (.long p3)] 4)) t := fun t k => pre6 t (st8.trans k)
  obtain ⟨h8, e8⟩ : ∃ z, T8.heap = z := ⟨_, rfl⟩
  rw [e8] at Kq8 Fx0_8 Fx1_8 Fx2_8 Fx3_8 Fx4_8
  have E10_0 : Exa Z h8 b "com/example/firmline/firmline/Call" := (A2.keep Kq8)
  have K10 : Keep h0 h8 [] := (K4.trans Kq8 (allS (P := fun x => x ∈ [] ∨ h0.size ≤ x) (Or.inr s_b) all0))
  have Z10 : n0 ≤ h8.size := (Nat.le_trans Z4 Kq8.1)
  obtain ⟨fs, hr, hrun, hended, hW, hsame⟩ := X8.leave (v := some (.ref b)) (fun h => by rw [Bd.returns] at h; cases h)
  refine ⟨_, _, pre9 _ ?_, hrun, hended, _, _, rfl, ?_, ⟨_, rfl⟩, hW, hsame.mono (by decide) (by decide)⟩
  · exact retOut X8 hx Bd.returns rfl (Or.inr (Or.inr (Or.inr (Or.inr ⟨rfl, rfl, rfl⟩)))) (hb hby d5_14) hr
  · show Q5 Z p1 p3 h0 n0 _ T8.heap _
    rw [e8]
    exact ⟨b, rfl, N8, K10, s_b, E10_0, Fx3_8, Fx4_8⟩
theorem pn_6 : plainName "com/example/firmline/firmline/Call" = true := by first | (simp [plainName, overriddenIn]; done) | decide +kernel
theorem d6_0 : decode prog_21_method_4_code 0 = .ok (.aload_n 0, 1) := by decide +kernel
theorem d6_1 : decode prog_21_method_4_code 1 = .ok (.getfield 27, 3) := by decide +kernel
theorem d6_4 : decode prog_21_method_4_code 4 = .ok (.aload_n 1, 1) := by decide +kernel
theorem d6_5 : decode prog_21_method_4_code 5 = .ok (.getfield 23, 3) := by decide +kernel
theorem d6_8 : decode prog_21_method_4_code 8 = .ok (.lcmp, 1) := by decide +kernel
theorem d6_9 : decode prog_21_method_4_code 9 = .ok (.ifCond .ge 7, 3) := by decide +kernel
theorem d6_12 : decode prog_21_method_4_code 12 = .ok (.iconst 1, 1) := by decide +kernel
theorem d6_13 : decode prog_21_method_4_code 13 = .ok (.goto 4, 3) := by decide +kernel
theorem d6_16 : decode prog_21_method_4_code 16 = .ok (.iconst 0, 1) := by decide +kernel
theorem d6_17 : decode prog_21_method_4_code 17 = .ok (.ireturn, 1) := by decide +kernel
theorem ef_6 (m : MethodId) (a1 : Addr) (a2 : Addr) : entryFrame m #[(.ref a1), (.ref a2)] 2 = mkF m 0 #[.val (.ref a1), .val (.ref a2)] [] := by first | (simp [entryFrame, mkF, argsToLocals, Value.category]; done) | rfl
def Q6 (Z : State) (a1 : Addr) (a2 : Addr) (q1 : Int64) (q2 : Int64) (h0 : Heap) (n0 : Nat) (v : Option Value) (h : Heap) (L : List Loc) : Prop := v = some (.int (own_bi (q1 < q2))) ∧ Fr n0 L ∧ h = h0
set_option maxRecDepth 65536 in
set_option maxHeartbeats 40000000 in
theorem rm6 (l : Launch) (Z : State) (a0 : Array Value) (hw : ∀ d ∈ tables_1, d.before a0 Z = true) (ws : List Jvm.Cond) (a1 : Addr) (a2 : Addr) (q1 : Int64) (q2 : Int64) (h0 : Heap) (n0 : Nat) (Z0 : n0 ≤ h0.size) (F1 : Fld Z h0 a1 "com/example/firmline/firmline/Call" "responded" "J" (.long q1)) (F2 : Fld Z h0 a2 "com/example/firmline/firmline/Call" "invoked" "J" (.long q2)) :
    MetFree l (⟨"com/example/firmline/firmline/Call", "precedes", "(Lcom/example/firmline/firmline/Call;)Z"⟩ : MethodName) (head1 (Jvm.Cond.code (⟨"com/example/firmline/firmline/Call", "precedes", "(Lcom/example/firmline/firmline/Call;)Z"⟩ : MethodName) prog_21_method_4_code 2 (some .boolean) :: ws) ({ frames := 0, cells := 0, slots := 0, locals := 0 } : Room)) (fun a U => a = #[(.ref a1), (.ref a2)] ∧ Z.Warmed39 U.vm ∧ U.heap = h0) (fun _ _ _ _ _ => True) (fun _ U o U' => ∃ v L, o = .returned v ∧ Q6 Z a1 a2 q1 q2 h0 n0 v U'.heap L ∧ FrameEnd U o U' L ({ frames := 0, cells := 0, slots := 0, locals := 0 } : Room).cells ({ frames := 0, cells := 0, slots := 0, locals := 0 } : Room).slots) := by
  refine MetFree.of_bodySF (plainFor_of_name pn_6) hisR ?_
  intro p e s m args below meth c s₁ Bd hml0 hP hK
  obtain ⟨rfl, hZ, hh⟩ := hP
  have hx := Bd.exec
  have hby := Bd.bytes
  have hml : c.maxLocals = 2 := hml0
  have hown : s.vm.findClass "com/example/firmline/firmline/Call" = some m.cls := findClass_of_methodNamed Bd.named
  have hnm := (name_of_methodNamed Bd.named Bd.method).1
  have X0 : Stand p l e ({ frames := 0, cells := 0, slots := 0, locals := 0 } : Room) s m #[(.ref a1), (.ref a2)] below meth c s₁ [] 0 0 := Stand.of_body Bd
  have e0 : s₁.heap = h0 := by rw [← hh, Bd.state]; rfl
  have N0 := Fr.nil n0
  have pre0 : ∀ t, Steps p.tables e below (s₁.setTop (mkF m 0 #[.val (.ref a1), .val (.ref a2)] [])) t → Steps p.tables e below (s₁.setTop (entryFrame m #[(.ref a1), (.ref a2)] 2)) t := fun t k => castTop (ef_6 m a1 a2) k
  have pre1 : ∀ t, Steps p.tables e below (s₁.setTop (mkF m 1 #[.val (.ref a1), .val (.ref a2)] [(.ref a1)])) t → Steps p.tables e below (s₁.setTop (entryFrame m #[(.ref a1), (.ref a2)] 2)) t := by
    intro t k
    refine pre0 t ?_
    refine XS.aloadN X0.here hx rfl (hb hby d6_0) rfl rfl ?_
    show Steps p.tables e below (s₁.setTop (mkF m 1 #[.val (.ref a1), .val (.ref a2)] [(.ref a1)])) _
    exact k
  obtain ⟨T2, X2, e2, st2⟩ := getF X0 hx hZ hown (host := "") (Or.inl (hw _ (List.mem_of_getElem? (i := 23) rfl))) Via.refl e0 F1 (g := (mkF m 1 #[.val (.ref a1), .val (.ref a2)] [(.ref a1)])) rfl rfl (hb hby d6_1)
  have pre3 : ∀ t, Steps p.tables e below (T2.setTop (mkF m 4 #[.val (.ref a1), .val (.ref a2)] [(.long q1)])) t → Steps p.tables e below (s₁.setTop (entryFrame m #[(.ref a1), (.ref a2)] 2)) t := fun t k => pre1 t (st2 t k)
  have pre4 : ∀ t, Steps p.tables e below (T2.setTop (mkF m 5 #[.val (.ref a1), .val (.ref a2)] [(.ref a2), (.long q1)])) t → Steps p.tables e below (s₁.setTop (entryFrame m #[(.ref a1), (.ref a2)] 2)) t := by
    intro t k
    refine pre3 t ?_
    refine XS.aloadN X2.here hx rfl (hb hby d6_4) rfl rfl ?_
    show Steps p.tables e below (T2.setTop (mkF m 5 #[.val (.ref a1), .val (.ref a2)] [(.ref a2), (.long q1)])) _
    exact k
  obtain ⟨T5, X5, e5, st5⟩ := getF X2 hx hZ hown (host := "") (Or.inl (hw _ (List.mem_of_getElem? (i := 21) rfl))) Via.refl e2 F2 (g := (mkF m 5 #[.val (.ref a1), .val (.ref a2)] [(.ref a2), (.long q1)])) rfl rfl (hb hby d6_5)
  have pre6 : ∀ t, Steps p.tables e below (T5.setTop (mkF m 8 #[.val (.ref a1), .val (.ref a2)] [(.long q2), (.long q1)])) t → Steps p.tables e below (s₁.setTop (entryFrame m #[(.ref a1), (.ref a2)] 2)) t := fun t k => pre4 t (st5 t k)
  have mrg7 : ∃ (b : Int32) (T7 : State) (Lo7 : List Loc), Stand p l e ({ frames := 0, cells := 0, slots := 0, locals := 0 } : Room) s m #[(.ref a1), (.ref a2)] below meth c T7 Lo7 0 0 ∧ Fr n0 Lo7 ∧ T7.heap = h0 ∧ (b = own_bi (q1 < q2)) ∧ ∀ t, Steps p.tables e below (T7.setTop (mkF m 17 #[.val (.ref a1), .val (.ref a2)] [(.int b)])) t → Steps p.tables e below (s₁.setTop (entryFrame m #[(.ref a1), (.ref a2)] 2)) t := by
    have pre8 : ∀ t, Steps p.tables e below (T5.setTop (mkF m 9 #[.val (.ref a1), .val (.ref a2)] [(.int (XT.cmpL q1 q2))])) t → Steps p.tables e below (s₁.setTop (entryFrame m #[(.ref a1), (.ref a2)] 2)) t := by
      intro t k
      refine pre6 t ?_
      refine XT.lcmp X5.here hx rfl (hb hby d6_8) rfl ?_
      show Steps p.tables e below (T5.setTop (mkF m 9 #[.val (.ref a1), .val (.ref a2)] [(.int (XT.cmpL q1 q2))])) _
      exact k
    by_cases hc9 : q1 < q2
    · skip
      have pre9 : ∀ t, Steps p.tables e below (T5.setTop (mkF m 17 #[.val (.ref a1), .val (.ref a2)] [(.int (1 : Int32))])) t → Steps p.tables e below (s₁.setTop (entryFrame m #[(.ref a1), (.ref a2)] 2)) t := by
        intro t k
        refine pre8 t ?_
        refine XS.ifNo X5.here hx rfl (hb hby d6_9) rfl (XT.ll_ge_f hc9) ?_
        show Steps p.tables e below (T5.setTop (mkF m 12 #[.val (.ref a1), .val (.ref a2)] [])) _
        refine XS.iconst X5.here hx rfl (hb hby d6_12) ?_
        show Steps p.tables e below (T5.setTop (mkF m 13 #[.val (.ref a1), .val (.ref a2)] [(.int (1 : Int32))])) _
        refine XS.goto X5.here hx rfl (pc0 := 13) (pc' := 17) rfl (hb hby d6_13) (by decide) (by decide) ?_
        show Steps p.tables e below (T5.setTop (mkF m 17 #[.val (.ref a1), .val (.ref a2)] [(.int (1 : Int32))])) _
        exact k
      exact ⟨(1 : Int32), _, _, X5, N0, e5, (by first | (simp [own_bi, hc9]; done) | contradiction), pre9⟩
    · skip
      have pre10 : ∀ t, Steps p.tables e below (T5.setTop (mkF m 17 #[.val (.ref a1), .val (.ref a2)] [(.int (0 : Int32))])) t → Steps p.tables e below (s₁.setTop (entryFrame m #[(.ref a1), (.ref a2)] 2)) t := by
        intro t k
        refine pre8 t ?_
        refine XS.ifYes X5.here hx rfl (pc0 := 9) (pc' := 16) rfl (hb hby d6_9) rfl (XT.ll_ge_t hc9) (by decide) (by decide) ?_
        show Steps p.tables e below (T5.setTop (mkF m 16 #[.val (.ref a1), .val (.ref a2)] [])) _
        refine XS.iconst X5.here hx rfl (hb hby d6_16) ?_
        show Steps p.tables e below (T5.setTop (mkF m 17 #[.val (.ref a1), .val (.ref a2)] [(.int (0 : Int32))])) _
        exact k
      exact ⟨(0 : Int32), _, _, X5, N0, e5, (by first | (simp [own_bi, hc9]; done) | contradiction), pre10⟩
  obtain ⟨b, T7, Lo7, X7, N7, e7, hb, pre7⟩ := mrg7
  subst hb
  obtain ⟨fs, hr, hrun, hended, hW, hsame⟩ := X7.leave (v := some (.int (own_bi (q1 < q2)))) (fun h => by rw [Bd.returns] at h; cases h)
  refine ⟨_, _, pre7 _ ?_, hrun, hended, _, _, rfl, ?_, ⟨_, rfl⟩, hW, hsame.mono (by decide) (by decide)⟩
  · exact retOut X7 hx Bd.returns (own_narZ (own_bi_01 _)) (Or.inl ⟨rfl, by simp, _, rfl⟩) (hb hby d6_17) hr
  · show Q6 Z a1 a2 q1 q2 h0 n0 _ T7.heap _
    rw [e7]
    exact ⟨rfl, N7, rfl⟩
theorem pn_4 : plainName "com/example/firmline/firmline/Call" = true := by first | (simp [plainName, overriddenIn]; done) | decide +kernel
theorem d4_0 : decode prog_21_method_3_code 0 = .ok (.aload_n 0, 1) := by decide +kernel
theorem d4_1 : decode prog_21_method_3_code 1 = .ok (.getfield 27, 3) := by decide +kernel
theorem d4_4 : decode prog_21_method_3_code 4 = .ok (.ldc2_w 30, 3) := by decide +kernel
theorem d4_7 : decode prog_21_method_3_code 7 = .ok (.lcmp, 1) := by decide +kernel
theorem d4_8 : decode prog_21_method_3_code 8 = .ok (.ifCond .ne 7, 3) := by decide +kernel
theorem d4_11 : decode prog_21_method_3_code 11 = .ok (.iconst 1, 1) := by decide +kernel
theorem d4_12 : decode prog_21_method_3_code 12 = .ok (.goto 4, 3) := by decide +kernel
theorem d4_15 : decode prog_21_method_3_code 15 = .ok (.iconst 0, 1) := by decide +kernel
theorem d4_16 : decode prog_21_method_3_code 16 = .ok (.ireturn, 1) := by decide +kernel
theorem ef_4 (m : MethodId) (a1 : Addr) : entryFrame m #[(.ref a1)] 1 = mkF m 0 #[.val (.ref a1)] [] := by first | (simp [entryFrame, mkF, argsToLocals, Value.category]; done) | rfl
def Q4 (Z : State) (a1 : Addr) (q1 : Int64) (h0 : Heap) (n0 : Nat) (v : Option Value) (h : Heap) (L : List Loc) : Prop := v = some (.int (own_bi (q1 = (9223372036854775807 : Int64)))) ∧ Fr n0 L ∧ h = h0
set_option maxRecDepth 65536 in
set_option maxHeartbeats 40000000 in
theorem rm4 (l : Launch) (Z : State) (a0 : Array Value) (hw : ∀ d ∈ tables_1, d.before a0 Z = true) (ws : List Jvm.Cond) (a1 : Addr) (q1 : Int64) (h0 : Heap) (n0 : Nat) (Z0 : n0 ≤ h0.size) (F1 : Fld Z h0 a1 "com/example/firmline/firmline/Call" "responded" "J" (.long q1)) :
    MetFree l (⟨"com/example/firmline/firmline/Call", "pending", "()Z"⟩ : MethodName) (head1 (Jvm.Cond.code (⟨"com/example/firmline/firmline/Call", "pending", "()Z"⟩ : MethodName) prog_21_method_3_code 1 (some .boolean) :: ws) ({ frames := 0, cells := 0, slots := 0, locals := 0 } : Room)) (fun a U => a = #[(.ref a1)] ∧ Z.Warmed39 U.vm ∧ U.heap = h0) (fun _ _ _ _ _ => True) (fun _ U o U' => ∃ v L, o = .returned v ∧ Q4 Z a1 q1 h0 n0 v U'.heap L ∧ FrameEnd U o U' L ({ frames := 0, cells := 0, slots := 0, locals := 0 } : Room).cells ({ frames := 0, cells := 0, slots := 0, locals := 0 } : Room).slots) := by
  refine MetFree.of_bodySF (plainFor_of_name pn_4) hisR ?_
  intro p e s m args below meth c s₁ Bd hml0 hP hK
  obtain ⟨rfl, hZ, hh⟩ := hP
  have hx := Bd.exec
  have hby := Bd.bytes
  have hml : c.maxLocals = 1 := hml0
  have hown : s.vm.findClass "com/example/firmline/firmline/Call" = some m.cls := findClass_of_methodNamed Bd.named
  have hnm := (name_of_methodNamed Bd.named Bd.method).1
  have X0 : Stand p l e ({ frames := 0, cells := 0, slots := 0, locals := 0 } : Room) s m #[(.ref a1)] below meth c s₁ [] 0 0 := Stand.of_body Bd
  have e0 : s₁.heap = h0 := by rw [← hh, Bd.state]; rfl
  have N0 := Fr.nil n0
  have pre0 : ∀ t, Steps p.tables e below (s₁.setTop (mkF m 0 #[.val (.ref a1)] [])) t → Steps p.tables e below (s₁.setTop (entryFrame m #[(.ref a1)] 1)) t := fun t k => castTop (ef_4 m a1) k
  have pre1 : ∀ t, Steps p.tables e below (s₁.setTop (mkF m 1 #[.val (.ref a1)] [(.ref a1)])) t → Steps p.tables e below (s₁.setTop (entryFrame m #[(.ref a1)] 1)) t := by
    intro t k
    refine pre0 t ?_
    refine XS.aloadN X0.here hx rfl (hb hby d4_0) rfl rfl ?_
    show Steps p.tables e below (s₁.setTop (mkF m 1 #[.val (.ref a1)] [(.ref a1)])) _
    exact k
  obtain ⟨T2, X2, e2, st2⟩ := getF X0 hx hZ hown (host := "") (Or.inl (hw _ (List.mem_of_getElem? (i := 23) rfl))) Via.refl e0 F1 (g := (mkF m 1 #[.val (.ref a1)] [(.ref a1)])) rfl rfl (hb hby d4_1)
  have pre3 : ∀ t, Steps p.tables e below (T2.setTop (mkF m 4 #[.val (.ref a1)] [(.long q1)])) t → Steps p.tables e below (s₁.setTop (entryFrame m #[(.ref a1)] 1)) t := fun t k => pre1 t (st2 t k)
  have mrg4 : ∃ (b : Int32) (T4 : State) (Lo4 : List Loc), Stand p l e ({ frames := 0, cells := 0, slots := 0, locals := 0 } : Room) s m #[(.ref a1)] below meth c T4 Lo4 0 0 ∧ Fr n0 Lo4 ∧ T4.heap = h0 ∧ (b = own_bi (q1 = (9223372036854775807 : Int64))) ∧ ∀ t, Steps p.tables e below (T4.setTop (mkF m 16 #[.val (.ref a1)] [(.int b)])) t → Steps p.tables e below (s₁.setTop (entryFrame m #[(.ref a1)] 1)) t := by
    have pre5 : ∀ t, Steps p.tables e below (T2.setTop (mkF m 8 #[.val (.ref a1)] [(.int (XT.cmpL q1 (9223372036854775807 : Int64)))])) t → Steps p.tables e below (s₁.setTop (entryFrame m #[(.ref a1)] 1)) t := by
      intro t k
      refine pre3 t ?_
      refine Stand.ldc2J X2 hx hown (mvT hZ (hw _ (List.mem_of_getElem? (i := 30) rfl))) rfl (hb hby d4_4) ?_
      show Steps p.tables e below (T2.setTop (mkF m 7 #[.val (.ref a1)] [(.long (9223372036854775807 : Int64)), (.long q1)])) _
      refine XT.lcmp X2.here hx rfl (hb hby d4_7) rfl ?_
      show Steps p.tables e below (T2.setTop (mkF m 8 #[.val (.ref a1)] [(.int (XT.cmpL q1 (9223372036854775807 : Int64)))])) _
      exact k
    by_cases hc8 : q1 = (9223372036854775807 : Int64)
    · skip
      have pre6 : ∀ t, Steps p.tables e below (T2.setTop (mkF m 16 #[.val (.ref a1)] [(.int (1 : Int32))])) t → Steps p.tables e below (s₁.setTop (entryFrame m #[(.ref a1)] 1)) t := by
        intro t k
        refine pre5 t ?_
        refine XS.ifNo X2.here hx rfl (hb hby d4_8) rfl (XT.ll_ne_f hc8) ?_
        show Steps p.tables e below (T2.setTop (mkF m 11 #[.val (.ref a1)] [])) _
        refine XS.iconst X2.here hx rfl (hb hby d4_11) ?_
        show Steps p.tables e below (T2.setTop (mkF m 12 #[.val (.ref a1)] [(.int (1 : Int32))])) _
        refine XS.goto X2.here hx rfl (pc0 := 12) (pc' := 16) rfl (hb hby d4_12) (by decide) (by decide) ?_
        show Steps p.tables e below (T2.setTop (mkF m 16 #[.val (.ref a1)] [(.int (1 : Int32))])) _
        exact k
      exact ⟨(1 : Int32), _, _, X2, N0, e2, (by first | (simp [own_bi, hc8]; done) | contradiction), pre6⟩
    · skip
      have pre7 : ∀ t, Steps p.tables e below (T2.setTop (mkF m 16 #[.val (.ref a1)] [(.int (0 : Int32))])) t → Steps p.tables e below (s₁.setTop (entryFrame m #[(.ref a1)] 1)) t := by
        intro t k
        refine pre5 t ?_
        refine XS.ifYes X2.here hx rfl (pc0 := 8) (pc' := 15) rfl (hb hby d4_8) rfl (XT.ll_ne_t hc8) (by decide) (by decide) ?_
        show Steps p.tables e below (T2.setTop (mkF m 15 #[.val (.ref a1)] [])) _
        refine XS.iconst X2.here hx rfl (hb hby d4_15) ?_
        show Steps p.tables e below (T2.setTop (mkF m 16 #[.val (.ref a1)] [(.int (0 : Int32))])) _
        exact k
      exact ⟨(0 : Int32), _, _, X2, N0, e2, (by first | (simp [own_bi, hc8]; done) | contradiction), pre7⟩
  obtain ⟨b, T4, Lo4, X4, N4, e4, hb, pre4⟩ := mrg4
  subst hb
  obtain ⟨fs, hr, hrun, hended, hW, hsame⟩ := X4.leave (v := some (.int (own_bi (q1 = (9223372036854775807 : Int64))))) (fun h => by rw [Bd.returns] at h; cases h)
  refine ⟨_, _, pre4 _ ?_, hrun, hended, _, _, rfl, ?_, ⟨_, rfl⟩, hW, hsame.mono (by decide) (by decide)⟩
  · exact retOut X4 hx Bd.returns (own_narZ (own_bi_01 _)) (Or.inl ⟨rfl, by simp, _, rfl⟩) (hb hby d4_16) hr
  · show Q4 Z a1 q1 h0 n0 _ T4.heap _
    rw [e4]
    exact ⟨rfl, N4, rfl⟩
theorem pd_ini : parseMethodDescriptor "(ILcom/example/firmline/firmline/Operation;Ljava/lang/Object;JJ)V" = some ⟨[.int, (.object "com/example/firmline/firmline/Operation"), (.object "java/lang/Object"), .long, .long], none⟩ := by decide +kernel
theorem pd_pen : parseMethodDescriptor "(ILcom/example/firmline/firmline/Operation;J)Lcom/example/firmline/firmline/Call;" = some ⟨[.int, (.object "com/example/firmline/firmline/Operation"), .long], some (.object "com/example/firmline/firmline/Call")⟩ := by decide +kernel
theorem pd_pre : parseMethodDescriptor "(Lcom/example/firmline/firmline/Call;)Z" = some ⟨[(.object "com/example/firmline/firmline/Call")], some .boolean⟩ := by decide +kernel
theorem pd_pz : parseMethodDescriptor "()Z" = some ⟨[], some .boolean⟩ := by decide +kernel
theorem pn_law : plainName "com/example/firmline/firmline/CallPendingPinLaw" = true := by first | (simp [plainName, overriddenIn]; done) | decide +kernel
theorem ef_law (m : MethodId) (ta : Int64) (tb : Int64) (sel : Int32) (tc : Int64) : entryFrame m #[(.long ta), (.long tb), (.int sel), (.long tc)] maxLocals = mkF m 0 #[.val (.long ta), .second, .val (.long tb), .second, .val (.int sel), .val (.long tc), .second, .unset, .unset, .unset, .unset, .unset, .unset, .unset, .unset] [] := by first | (simp [entryFrame, mkF, argsToLocals, Value.category, maxLocals]; done) | rfl
def Qlaw (Z : State) (ta : Int64) (tb : Int64) (sel : Int32) (tc : Int64) (h0 : Heap) (n0 : Nat) (v : Option Value) (h : Heap) (L : List Loc) : Prop := v = some (.int (1 : Int32)) ∧ Fr n0 L
set_option maxRecDepth 65536 in
set_option maxHeartbeats 40000000 in
theorem rmlaw (l : Launch) (Z : State) (a0 : Array Value) (hw : ∀ d ∈ tables_1, d.before a0 Z = true) (ws : List Jvm.Cond) (ta : Int64) (tb : Int64) (sel : Int32) (tc : Int64) (h0 : Heap) (n0 : Nat) (Z0 : n0 ≤ h0.size) :
    MetFree l x (head1 (Jvm.Cond.code x code maxLocals ret :: ws) room_1) (fun a U => a = #[(.long ta), (.long tb), (.int sel), (.long tc)] ∧ Z.Warmed39 U.vm ∧ U.heap = h0) (fun _ _ _ _ _ => True) (fun _ U o U' => ∃ v L, o = .returned v ∧ Qlaw Z ta tb sel tc h0 n0 v U'.heap L ∧ FrameEnd U o U' L room_1.cells room_1.slots) := by
  refine MetFree.of_bodySF (plainFor_of_name pn_law) hisR ?_
  intro p e s m args below meth c s₁ Bd hml0 hP hK
  obtain ⟨rfl, hZ, hh⟩ := hP
  have hx := Bd.exec
  have hby := Bd.bytes
  have hml : c.maxLocals = 15 := hml0
  have hown : s.vm.findClass "com/example/firmline/firmline/CallPendingPinLaw" = some m.cls := findClass_of_methodNamed Bd.named
  have hnm := (name_of_methodNamed Bd.named Bd.method).1
  have X0 : Stand p l e room_1 s m #[(.long ta), (.long tb), (.int sel), (.long tc)] below meth c s₁ [] 0 0 := Stand.of_body Bd
  have e0 : s₁.heap = h0 := by rw [← hh, Bd.state]; rfl
  have N0 := Fr.nil n0
  have pre0 : ∀ t, Steps p.tables e below (s₁.setTop (mkF m 0 #[.val (.long ta), .second, .val (.long tb), .second, .val (.int sel), .val (.long tc), .second, .unset, .unset, .unset, .unset, .unset, .unset, .unset, .unset] [])) t → Steps p.tables e below (s₁.setTop (entryFrame m #[(.long ta), (.long tb), (.int sel), (.long tc)] maxLocals)) t := fun t k => castTop (ef_law m ta tb sel tc) k
  have pre1 : ∀ t, Steps p.tables e below (s₁.setTop (mkF m 6 #[.val (.long ta), .second, .val (.long tb), .second, .val (.int sel), .val (.long tc), .second, .val (.int (sel &&& (3 : Int32))), .unset, .unset, .unset, .unset, .unset, .unset, .unset] [])) t → Steps p.tables e below (s₁.setTop (entryFrame m #[(.long ta), (.long tb), (.int sel), (.long tc)] maxLocals)) t := by
    intro t k
    refine pre0 t ?_
    refine XS.iload X0.here hx rfl (hb hby at_0) rfl ?_
    show Steps p.tables e below (s₁.setTop (mkF m 2 #[.val (.long ta), .second, .val (.long tb), .second, .val (.int sel), .val (.long tc), .second, .unset, .unset, .unset, .unset, .unset, .unset, .unset, .unset] [(.int sel)])) _
    refine XS.iconst X0.here hx rfl (hb hby at_2) ?_
    show Steps p.tables e below (s₁.setTop (mkF m 3 #[.val (.long ta), .second, .val (.long tb), .second, .val (.int sel), .val (.long tc), .second, .unset, .unset, .unset, .unset, .unset, .unset, .unset, .unset] [(.int (3 : Int32)), (.int sel)])) _
    refine XS.iand X0.here hx rfl (hb hby at_3) rfl ?_
    show Steps p.tables e below (s₁.setTop (mkF m 4 #[.val (.long ta), .second, .val (.long tb), .second, .val (.int sel), .val (.long tc), .second, .unset, .unset, .unset, .unset, .unset, .unset, .unset, .unset] [(.int (sel &&& (3 : Int32)))])) _
    refine XS.istore X0.here hx rfl (hb hby at_4) rfl (l' := #[.val (.long ta), .second, .val (.long tb), .second, .val (.int sel), .val (.long tc), .second, .val (.int (sel &&& (3 : Int32))), .unset, .unset, .unset, .unset, .unset, .unset, .unset]) rfl ?_
    show Steps p.tables e below (s₁.setTop (mkF m 6 #[.val (.long ta), .second, .val (.long tb), .second, .val (.int sel), .val (.long tc), .second, .val (.int (sel &&& (3 : Int32))), .unset, .unset, .unset, .unset, .unset, .unset, .unset] [])) _
    exact k
  have mrg2 : ∃ (r : Int64) (T2 : State) (Lo2 : List Loc), Stand p l e room_1 s m #[(.long ta), (.long tb), (.int sel), (.long tc)] below meth c T2 Lo2 0 0 ∧ Fr n0 Lo2 ∧ T2.heap = h0 ∧ (True) ∧ ∀ t, Steps p.tables e below (T2.setTop (mkF m 36 #[.val (.long ta), .second, .val (.long tb), .second, .val (.int sel), .val (.long tc), .second, .val (.int (sel &&& (3 : Int32))), .val (.long r), .second, .unset, .unset, .unset, .unset, .unset] [])) t → Steps p.tables e below (s₁.setTop (entryFrame m #[(.long ta), (.long tb), (.int sel), (.long tc)] maxLocals)) t := by
    have pre3 : ∀ t, Steps p.tables e below (s₁.setTop (mkF m 8 #[.val (.long ta), .second, .val (.long tb), .second, .val (.int sel), .val (.long tc), .second, .val (.int (sel &&& (3 : Int32))), .unset, .unset, .unset, .unset, .unset, .unset, .unset] [(.int (sel &&& (3 : Int32)))])) t → Steps p.tables e below (s₁.setTop (entryFrame m #[(.long ta), (.long tb), (.int sel), (.long tc)] maxLocals)) t := by
      intro t k
      refine pre1 t ?_
      refine XS.iload X0.here hx rfl (hb hby at_6) rfl ?_
      show Steps p.tables e below (s₁.setTop (mkF m 8 #[.val (.long ta), .second, .val (.long tb), .second, .val (.int sel), .val (.long tc), .second, .val (.int (sel &&& (3 : Int32))), .unset, .unset, .unset, .unset, .unset, .unset, .unset] [(.int (sel &&& (3 : Int32)))])) _
      exact k
    by_cases hc8 : (sel &&& (3 : Int32)) = (0 : Int32)
    · skip
      have pre4 : ∀ t, Steps p.tables e below (s₁.setTop (mkF m 36 #[.val (.long ta), .second, .val (.long tb), .second, .val (.int sel), .val (.long tc), .second, .val (.int (sel &&& (3 : Int32))), .val (.long (9223372036854775807 : Int64)), .second, .unset, .unset, .unset, .unset, .unset] [])) t → Steps p.tables e below (s₁.setTop (entryFrame m #[(.long ta), (.long tb), (.int sel), (.long tc)] maxLocals)) t := by
        intro t k
        refine pre3 t ?_
        refine XS.ifNo X0.here hx rfl (hb hby at_8) rfl (XT.i0_ne_f hc8) ?_
        show Steps p.tables e below (s₁.setTop (mkF m 11 #[.val (.long ta), .second, .val (.long tb), .second, .val (.int sel), .val (.long tc), .second, .val (.int (sel &&& (3 : Int32))), .unset, .unset, .unset, .unset, .unset, .unset, .unset] [])) _
        refine Stand.ldc2J X0 hx hown (mvT hZ (hw _ (List.mem_of_getElem? (i := 0) rfl))) rfl (hb hby at_11) ?_
        show Steps p.tables e below (s₁.setTop (mkF m 14 #[.val (.long ta), .second, .val (.long tb), .second, .val (.int sel), .val (.long tc), .second, .val (.int (sel &&& (3 : Int32))), .unset, .unset, .unset, .unset, .unset, .unset, .unset] [(.long (9223372036854775807 : Int64))])) _
        refine XT.lstore X0.here hx rfl (hb hby at_14) rfl (l' := #[.val (.long ta), .second, .val (.long tb), .second, .val (.int sel), .val (.long tc), .second, .val (.int (sel &&& (3 : Int32))), .val (.long (9223372036854775807 : Int64)), .second, .unset, .unset, .unset, .unset, .unset]) rfl ?_
        show Steps p.tables e below (s₁.setTop (mkF m 16 #[.val (.long ta), .second, .val (.long tb), .second, .val (.int sel), .val (.long tc), .second, .val (.int (sel &&& (3 : Int32))), .val (.long (9223372036854775807 : Int64)), .second, .unset, .unset, .unset, .unset, .unset] [])) _
        refine XS.goto X0.here hx rfl (pc0 := 16) (pc' := 36) rfl (hb hby at_16) (by decide) (by decide) ?_
        show Steps p.tables e below (s₁.setTop (mkF m 36 #[.val (.long ta), .second, .val (.long tb), .second, .val (.int sel), .val (.long tc), .second, .val (.int (sel &&& (3 : Int32))), .val (.long (9223372036854775807 : Int64)), .second, .unset, .unset, .unset, .unset, .unset] [])) _
        exact k
      exact ⟨(9223372036854775807 : Int64), _, _, X0, N0, e0, (by trivial), pre4⟩
    · skip
      have pre5 : ∀ t, Steps p.tables e below (s₁.setTop (mkF m 22 #[.val (.long ta), .second, .val (.long tb), .second, .val (.int sel), .val (.long tc), .second, .val (.int (sel &&& (3 : Int32))), .unset, .unset, .unset, .unset, .unset, .unset, .unset] [(.int (1 : Int32)), (.int (sel &&& (3 : Int32)))])) t → Steps p.tables e below (s₁.setTop (entryFrame m #[(.long ta), (.long tb), (.int sel), (.long tc)] maxLocals)) t := by
        intro t k
        refine pre3 t ?_
        refine XS.ifYes X0.here hx rfl (pc0 := 8) (pc' := 19) rfl (hb hby at_8) rfl (XT.i0_ne_t hc8) (by decide) (by decide) ?_
        show Steps p.tables e below (s₁.setTop (mkF m 19 #[.val (.long ta), .second, .val (.long tb), .second, .val (.int sel), .val (.long tc), .second, .val (.int (sel &&& (3 : Int32))), .unset, .unset, .unset, .unset, .unset, .unset, .unset] [])) _
        refine XS.iload X0.here hx rfl (hb hby at_19) rfl ?_
        show Steps p.tables e below (s₁.setTop (mkF m 21 #[.val (.long ta), .second, .val (.long tb), .second, .val (.int sel), .val (.long tc), .second, .val (.int (sel &&& (3 : Int32))), .unset, .unset, .unset, .unset, .unset, .unset, .unset] [(.int (sel &&& (3 : Int32)))])) _
        refine XS.iconst X0.here hx rfl (hb hby at_21) ?_
        show Steps p.tables e below (s₁.setTop (mkF m 22 #[.val (.long ta), .second, .val (.long tb), .second, .val (.int sel), .val (.long tc), .second, .val (.int (sel &&& (3 : Int32))), .unset, .unset, .unset, .unset, .unset, .unset, .unset] [(.int (1 : Int32)), (.int (sel &&& (3 : Int32)))])) _
        exact k
      by_cases hc22 : (sel &&& (3 : Int32)) = (1 : Int32)
      · skip
        have pre6 : ∀ t, Steps p.tables e below (s₁.setTop (mkF m 36 #[.val (.long ta), .second, .val (.long tb), .second, .val (.int sel), .val (.long tc), .second, .val (.int (sel &&& (3 : Int32))), .val (.long (9223372036854775806 : Int64)), .second, .unset, .unset, .unset, .unset, .unset] [])) t → Steps p.tables e below (s₁.setTop (entryFrame m #[(.long ta), (.long tb), (.int sel), (.long tc)] maxLocals)) t := by
          intro t k
          refine pre5 t ?_
          refine XS.icmpNo X0.here hx rfl (hb hby at_22) rfl (XT.ii_ne_f hc22) ?_
          show Steps p.tables e below (s₁.setTop (mkF m 25 #[.val (.long ta), .second, .val (.long tb), .second, .val (.int sel), .val (.long tc), .second, .val (.int (sel &&& (3 : Int32))), .unset, .unset, .unset, .unset, .unset, .unset, .unset] [])) _
          refine Stand.ldc2J X0 hx hown (mvT hZ (hw _ (List.mem_of_getElem? (i := 41) rfl))) rfl (hb hby at_25) ?_
          show Steps p.tables e below (s₁.setTop (mkF m 28 #[.val (.long ta), .second, .val (.long tb), .second, .val (.int sel), .val (.long tc), .second, .val (.int (sel &&& (3 : Int32))), .unset, .unset, .unset, .unset, .unset, .unset, .unset] [(.long (9223372036854775806 : Int64))])) _
          refine XT.lstore X0.here hx rfl (hb hby at_28) rfl (l' := #[.val (.long ta), .second, .val (.long tb), .second, .val (.int sel), .val (.long tc), .second, .val (.int (sel &&& (3 : Int32))), .val (.long (9223372036854775806 : Int64)), .second, .unset, .unset, .unset, .unset, .unset]) rfl ?_
          show Steps p.tables e below (s₁.setTop (mkF m 30 #[.val (.long ta), .second, .val (.long tb), .second, .val (.int sel), .val (.long tc), .second, .val (.int (sel &&& (3 : Int32))), .val (.long (9223372036854775806 : Int64)), .second, .unset, .unset, .unset, .unset, .unset] [])) _
          refine XS.goto X0.here hx rfl (pc0 := 30) (pc' := 36) rfl (hb hby at_30) (by decide) (by decide) ?_
          show Steps p.tables e below (s₁.setTop (mkF m 36 #[.val (.long ta), .second, .val (.long tb), .second, .val (.int sel), .val (.long tc), .second, .val (.int (sel &&& (3 : Int32))), .val (.long (9223372036854775806 : Int64)), .second, .unset, .unset, .unset, .unset, .unset] [])) _
          exact k
        exact ⟨(9223372036854775806 : Int64), _, _, X0, N0, e0, (by trivial), pre6⟩
      · skip
        have pre7 : ∀ t, Steps p.tables e below (s₁.setTop (mkF m 36 #[.val (.long ta), .second, .val (.long tb), .second, .val (.int sel), .val (.long tc), .second, .val (.int (sel &&& (3 : Int32))), .val (.long tb), .second, .unset, .unset, .unset, .unset, .unset] [])) t → Steps p.tables e below (s₁.setTop (entryFrame m #[(.long ta), (.long tb), (.int sel), (.long tc)] maxLocals)) t := by
          intro t k
          refine pre5 t ?_
          refine XS.icmpYes X0.here hx rfl (pc0 := 22) (pc' := 33) rfl (hb hby at_22) rfl (XT.ii_ne_t hc22) (by decide) (by decide) ?_
          show Steps p.tables e below (s₁.setTop (mkF m 33 #[.val (.long ta), .second, .val (.long tb), .second, .val (.int sel), .val (.long tc), .second, .val (.int (sel &&& (3 : Int32))), .unset, .unset, .unset, .unset, .unset, .unset, .unset] [])) _
          refine XT.lloadN X0.here hx rfl (hb hby at_33) rfl ?_
          show Steps p.tables e below (s₁.setTop (mkF m 34 #[.val (.long ta), .second, .val (.long tb), .second, .val (.int sel), .val (.long tc), .second, .val (.int (sel &&& (3 : Int32))), .unset, .unset, .unset, .unset, .unset, .unset, .unset] [(.long tb)])) _
          refine XT.lstore X0.here hx rfl (hb hby at_34) rfl (l' := #[.val (.long ta), .second, .val (.long tb), .second, .val (.int sel), .val (.long tc), .second, .val (.int (sel &&& (3 : Int32))), .val (.long tb), .second, .unset, .unset, .unset, .unset, .unset]) rfl ?_
          show Steps p.tables e below (s₁.setTop (mkF m 36 #[.val (.long ta), .second, .val (.long tb), .second, .val (.int sel), .val (.long tc), .second, .val (.int (sel &&& (3 : Int32))), .val (.long tb), .second, .unset, .unset, .unset, .unset, .unset] [])) _
          exact k
        exact ⟨tb, _, _, X0, N0, e0, (by trivial), pre7⟩
  obtain ⟨r, T2, Lo2, X2, N2, e2, hr, pre2⟩ := mrg2
  obtain ⟨T9, h9, X9, e9, E9, A9, D9, -, st9⟩ := newO X2 hx hZ hown (hw _ (List.mem_of_getElem? (i := 1) rfl)) (hw _ (List.mem_of_getElem? (i := 2) rfl)) (hw _ (List.mem_of_getElem? (i := 3) rfl)) e2 (g := (mkF m 36 #[.val (.long ta), .second, .val (.long tb), .second, .val (.int sel), .val (.long tc), .second, .val (.int (sel &&& (3 : Int32))), .val (.long r), .second, .unset, .unset, .unset, .unset, .unset] [])) rfl (hb hby at_36) (by decide) (by decide)
  obtain ⟨b1, gz9⟩ : ∃ z, z = h0.size := ⟨_, rfl⟩
  rw [← gz9] at A9 D9 st9
  have g_b1 : n0 ≤ b1 := Nat.le_trans Z0 (Nat.le_of_eq gz9.symm)
  have F_process_b1 : Fld Z h9 b1 "com/example/firmline/firmline/Call" "process" "I" (.int (0 : Int32)) := D9 (Or.inr (hw _ (List.mem_of_getElem? (i := 16) rfl))) (ty := .int) (by decide)
  have F_operation_b1 : Fld Z h9 b1 "com/example/firmline/firmline/Call" "operation" "Lcom/example/firmline/firmline/Operation;" .null := D9 (Or.inr (hw _ (List.mem_of_getElem? (i := 18) rfl))) (ty := (.object "com/example/firmline/firmline/Operation")) (by decide)
  have F_response_b1 : Fld Z h9 b1 "com/example/firmline/firmline/Call" "response" "Ljava/lang/Object;" .null := D9 (Or.inr (hw _ (List.mem_of_getElem? (i := 20) rfl))) (ty := (.object "java/lang/Object")) (by decide)
  have F_invoked_b1 : Fld Z h9 b1 "com/example/firmline/firmline/Call" "invoked" "J" (.long (0 : Int64)) := D9 (Or.inr (hw _ (List.mem_of_getElem? (i := 22) rfl))) (ty := .long) (by decide)
  have F_responded_b1 : Fld Z h9 b1 "com/example/firmline/firmline/Call" "responded" "J" (.long (0 : Int64)) := D9 (Or.inr (hw _ (List.mem_of_getElem? (i := 24) rfl))) (ty := .long) (by decide)
  have pre10 : ∀ t, Steps p.tables e below (T9.setTop (mkF m 39 #[.val (.long ta), .second, .val (.long tb), .second, .val (.int sel), .val (.long tc), .second, .val (.int (sel &&& (3 : Int32))), .val (.long r), .second, .unset, .unset, .unset, .unset, .unset] [(.ref b1)])) t → Steps p.tables e below (s₁.setTop (entryFrame m #[(.long ta), (.long tb), (.int sel), (.long tc)] maxLocals)) t := fun t k => pre2 t (st9 t k)
  have Z11 : n0 ≤ h9.size := (Nat.le_trans Z0 E9.1)
  have pre13 : ∀ t, Steps p.tables e below (T9.setTop (mkF m 47 #[.val (.long ta), .second, .val (.long tb), .second, .val (.int sel), .val (.long tc), .second, .val (.int (sel &&& (3 : Int32))), .val (.long r), .second, .unset, .unset, .unset, .unset, .unset] [(.long r), (.long ta), .null, .null, (.int sel), (.ref b1), (.ref b1)])) t → Steps p.tables e below (s₁.setTop (entryFrame m #[(.long ta), (.long tb), (.int sel), (.long tc)] maxLocals)) t := by
    intro t k
    refine pre10 t ?_
    refine XS.dup X9.here hx rfl (hb hby at_39) rfl rfl ?_
    show Steps p.tables e below (T9.setTop (mkF m 40 #[.val (.long ta), .second, .val (.long tb), .second, .val (.int sel), .val (.long tc), .second, .val (.int (sel &&& (3 : Int32))), .val (.long r), .second, .unset, .unset, .unset, .unset, .unset] [(.ref b1), (.ref b1)])) _
    refine XS.iload X9.here hx rfl (hb hby at_40) rfl ?_
    show Steps p.tables e below (T9.setTop (mkF m 42 #[.val (.long ta), .second, .val (.long tb), .second, .val (.int sel), .val (.long tc), .second, .val (.int (sel &&& (3 : Int32))), .val (.long r), .second, .unset, .unset, .unset, .unset, .unset] [(.int sel), (.ref b1), (.ref b1)])) _
    refine XS.aconstNull X9.here hx rfl (hb hby at_42) ?_
    show Steps p.tables e below (T9.setTop (mkF m 43 #[.val (.long ta), .second, .val (.long tb), .second, .val (.int sel), .val (.long tc), .second, .val (.int (sel &&& (3 : Int32))), .val (.long r), .second, .unset, .unset, .unset, .unset, .unset] [.null, (.int sel), (.ref b1), (.ref b1)])) _
    refine XS.aconstNull X9.here hx rfl (hb hby at_43) ?_
    show Steps p.tables e below (T9.setTop (mkF m 44 #[.val (.long ta), .second, .val (.long tb), .second, .val (.int sel), .val (.long tc), .second, .val (.int (sel &&& (3 : Int32))), .val (.long r), .second, .unset, .unset, .unset, .unset, .unset] [.null, .null, (.int sel), (.ref b1), (.ref b1)])) _
    refine XT.lloadN X9.here hx rfl (hb hby at_44) rfl ?_
    show Steps p.tables e below (T9.setTop (mkF m 45 #[.val (.long ta), .second, .val (.long tb), .second, .val (.int sel), .val (.long tc), .second, .val (.int (sel &&& (3 : Int32))), .val (.long r), .second, .unset, .unset, .unset, .unset, .unset] [(.long ta), .null, .null, (.int sel), (.ref b1), (.ref b1)])) _
    refine XT.lload X9.here hx rfl (hb hby at_45) rfl ?_
    show Steps p.tables e below (T9.setTop (mkF m 47 #[.val (.long ta), .second, .val (.long tb), .second, .val (.int sel), .val (.long tc), .second, .val (.int (sel &&& (3 : Int32))), .val (.long r), .second, .unset, .unset, .unset, .unset, .unset] [(.long r), (.long ta), .null, .null, (.int sel), (.ref b1), (.ref b1)])) _
    exact k
  obtain ⟨_, _, ⟨T15, L15, k15, n15⟩, -, X15, ⟨Lc15, hQ15, l15, y15, z15⟩, st15⟩ := X9.specialBack hx (y := (⟨"com/example/firmline/firmline/Call", "<init>", "(ILcom/example/firmline/firmline/Operation;Ljava/lang/Object;JJ)V"⟩ : MethodName)) rfl hown (mvT hZ (hw _ (List.mem_of_getElem? (i := 4) rfl))) (mvT hZ (hw _ (List.mem_of_getElem? (i := 5) rfl))) (mvT hZ (hw _ (List.mem_of_getElem? (i := 6) rfl))) (by decide) (backOf (W := 1) (rm1 l Z a0 hw [] b1 sel ta r h9 n0 Z11 A9 g_b1  F_process_b1 F_operation_b1 F_response_b1 F_invoked_b1 F_responded_b1) hZ (hw _ (List.mem_of_getElem? (i := 6) rfl)) (hw _ (List.mem_of_getElem? (i := 3) rfl)) (by decide) (by decide)) (g := (mkF m 47 #[.val (.long ta), .second, .val (.long tb), .second, .val (.int sel), .val (.long tc), .second, .val (.int (sel &&& (3 : Int32))), .val (.long r), .second, .unset, .unset, .unset, .unset, .unset] [(.long r), (.long ta), .null, .null, (.int sel), (.ref b1), (.ref b1)])) rfl (by rw [hml]; rfl) (Steps.refl _) (a := b1) (argsL := [(.int sel), .null, .null, (.long ta), (.long r)]) (rest := [(.ref b1)]) (lenOf pd_ini rfl) rfl (by show 2 * 0 + _ ≤ _; exact Nat.le_of_eq rfl) (hb hby at_47) (fun _ _ => ⟨rfl, e9, (by decide : 1 + 0 ≤ _), (by decide : 5 + 0 ≤ _)⟩)
  dsimp only [Pt.U, Pt.locs, Pt.cells, Pt.slots] at X15 l15 y15 z15 st15 hQ15
  subst l15 y15 z15
  obtain ⟨rfl, Nq15, Kq15, Fx0_15, Fx1_15, Fx2_15, Fx3_15, Fx4_15⟩ := hQ15
  have N15 := Fr.app N2 Nq15
  have pre16 : ∀ t, Steps p.tables e below (T15.setTop (mkF m 50 #[.val (.long ta), .second, .val (.long tb), .second, .val (.int sel), .val (.long tc), .second, .val (.int (sel &&& (3 : Int32))), .val (.long r), .second, .unset, .unset, .unset, .unset, .unset] [(.ref b1)])) t → Steps p.tables e below (s₁.setTop (entryFrame m #[(.long ta), (.long tb), (.int sel), (.long tc)] maxLocals)) t := fun t k => pre13 t (st15.trans k)
  obtain ⟨h15, e15⟩ : ∃ z, T15.heap = z := ⟨_, rfl⟩
  rw [e15] at Kq15 Fx0_15 Fx1_15 Fx2_15 Fx3_15 Fx4_15
  have E17_0 : Exa Z h15 b1 "com/example/firmline/firmline/Call" := (A9.keep Kq15)
  have Z17 : n0 ≤ h15.size := (Nat.le_trans Z11 Kq15.1)
  have pre18 : ∀ t, Steps p.tables e below (T15.setTop (mkF m 52 #[.val (.long ta), .second, .val (.long tb), .second, .val (.int sel), .val (.long tc), .second, .val (.int (sel &&& (3 : Int32))), .val (.long r), .second, .val (.ref b1), .unset, .unset, .unset, .unset] [])) t → Steps p.tables e below (s₁.setTop (entryFrame m #[(.long ta), (.long tb), (.int sel), (.long tc)] maxLocals)) t := by
    intro t k
    refine pre16 t ?_
    refine XS.astore X15.here hx rfl (hb hby at_50) rfl rfl (l' := #[.val (.long ta), .second, .val (.long tb), .second, .val (.int sel), .val (.long tc), .second, .val (.int (sel &&& (3 : Int32))), .val (.long r), .second, .val (.ref b1), .unset, .unset, .unset, .unset]) rfl ?_
    show Steps p.tables e below (T15.setTop (mkF m 52 #[.val (.long ta), .second, .val (.long tb), .second, .val (.int sel), .val (.long tc), .second, .val (.int (sel &&& (3 : Int32))), .val (.long r), .second, .val (.ref b1), .unset, .unset, .unset, .unset] [])) _
    exact k
  have mrg19 : ∃ (ex : Int32) (T19 : State) (Lo19 : List Loc), Stand p l e room_1 s m #[(.long ta), (.long tb), (.int sel), (.long tc)] below meth c T19 Lo19 1 5 ∧ Fr n0 Lo19 ∧ T19.heap = h15 ∧ (ex = own_bi (r = (9223372036854775807 : Int64))) ∧ ∀ t, Steps p.tables e below (T19.setTop (mkF m 66 #[.val (.long ta), .second, .val (.long tb), .second, .val (.int sel), .val (.long tc), .second, .val (.int (sel &&& (3 : Int32))), .val (.long r), .second, .val (.ref b1), .unset, .unset, .unset, .unset] [(.int ex)])) t → Steps p.tables e below (s₁.setTop (entryFrame m #[(.long ta), (.long tb), (.int sel), (.long tc)] maxLocals)) t := by
    have pre20 : ∀ t, Steps p.tables e below (T15.setTop (mkF m 58 #[.val (.long ta), .second, .val (.long tb), .second, .val (.int sel), .val (.long tc), .second, .val (.int (sel &&& (3 : Int32))), .val (.long r), .second, .val (.ref b1), .unset, .unset, .unset, .unset] [(.int (XT.cmpL r (9223372036854775807 : Int64)))])) t → Steps p.tables e below (s₁.setTop (entryFrame m #[(.long ta), (.long tb), (.int sel), (.long tc)] maxLocals)) t := by
      intro t k
      refine pre18 t ?_
      refine XT.lload X15.here hx rfl (hb hby at_52) rfl ?_
      show Steps p.tables e below (T15.setTop (mkF m 54 #[.val (.long ta), .second, .val (.long tb), .second, .val (.int sel), .val (.long tc), .second, .val (.int (sel &&& (3 : Int32))), .val (.long r), .second, .val (.ref b1), .unset, .unset, .unset, .unset] [(.long r)])) _
      refine Stand.ldc2J X15 hx hown (mvT hZ (hw _ (List.mem_of_getElem? (i := 0) rfl))) rfl (hb hby at_54) ?_
      show Steps p.tables e below (T15.setTop (mkF m 57 #[.val (.long ta), .second, .val (.long tb), .second, .val (.int sel), .val (.long tc), .second, .val (.int (sel &&& (3 : Int32))), .val (.long r), .second, .val (.ref b1), .unset, .unset, .unset, .unset] [(.long (9223372036854775807 : Int64)), (.long r)])) _
      refine XT.lcmp X15.here hx rfl (hb hby at_57) rfl ?_
      show Steps p.tables e below (T15.setTop (mkF m 58 #[.val (.long ta), .second, .val (.long tb), .second, .val (.int sel), .val (.long tc), .second, .val (.int (sel &&& (3 : Int32))), .val (.long r), .second, .val (.ref b1), .unset, .unset, .unset, .unset] [(.int (XT.cmpL r (9223372036854775807 : Int64)))])) _
      exact k
    by_cases hc58 : r = (9223372036854775807 : Int64)
    · skip
      have pre21 : ∀ t, Steps p.tables e below (T15.setTop (mkF m 66 #[.val (.long ta), .second, .val (.long tb), .second, .val (.int sel), .val (.long tc), .second, .val (.int (sel &&& (3 : Int32))), .val (.long r), .second, .val (.ref b1), .unset, .unset, .unset, .unset] [(.int (1 : Int32))])) t → Steps p.tables e below (s₁.setTop (entryFrame m #[(.long ta), (.long tb), (.int sel), (.long tc)] maxLocals)) t := by
        intro t k
        refine pre20 t ?_
        refine XS.ifNo X15.here hx rfl (hb hby at_58) rfl (XT.ll_ne_f hc58) ?_
        show Steps p.tables e below (T15.setTop (mkF m 61 #[.val (.long ta), .second, .val (.long tb), .second, .val (.int sel), .val (.long tc), .second, .val (.int (sel &&& (3 : Int32))), .val (.long r), .second, .val (.ref b1), .unset, .unset, .unset, .unset] [])) _
        refine XS.iconst X15.here hx rfl (hb hby at_61) ?_
        show Steps p.tables e below (T15.setTop (mkF m 62 #[.val (.long ta), .second, .val (.long tb), .second, .val (.int sel), .val (.long tc), .second, .val (.int (sel &&& (3 : Int32))), .val (.long r), .second, .val (.ref b1), .unset, .unset, .unset, .unset] [(.int (1 : Int32))])) _
        refine XS.goto X15.here hx rfl (pc0 := 62) (pc' := 66) rfl (hb hby at_62) (by decide) (by decide) ?_
        show Steps p.tables e below (T15.setTop (mkF m 66 #[.val (.long ta), .second, .val (.long tb), .second, .val (.int sel), .val (.long tc), .second, .val (.int (sel &&& (3 : Int32))), .val (.long r), .second, .val (.ref b1), .unset, .unset, .unset, .unset] [(.int (1 : Int32))])) _
        exact k
      exact ⟨(1 : Int32), _, _, X15, N15, e15, (by first | (simp [own_bi, hc58]; done) | contradiction), pre21⟩
    · skip
      have pre22 : ∀ t, Steps p.tables e below (T15.setTop (mkF m 66 #[.val (.long ta), .second, .val (.long tb), .second, .val (.int sel), .val (.long tc), .second, .val (.int (sel &&& (3 : Int32))), .val (.long r), .second, .val (.ref b1), .unset, .unset, .unset, .unset] [(.int (0 : Int32))])) t → Steps p.tables e below (s₁.setTop (entryFrame m #[(.long ta), (.long tb), (.int sel), (.long tc)] maxLocals)) t := by
        intro t k
        refine pre20 t ?_
        refine XS.ifYes X15.here hx rfl (pc0 := 58) (pc' := 65) rfl (hb hby at_58) rfl (XT.ll_ne_t hc58) (by decide) (by decide) ?_
        show Steps p.tables e below (T15.setTop (mkF m 65 #[.val (.long ta), .second, .val (.long tb), .second, .val (.int sel), .val (.long tc), .second, .val (.int (sel &&& (3 : Int32))), .val (.long r), .second, .val (.ref b1), .unset, .unset, .unset, .unset] [])) _
        refine XS.iconst X15.here hx rfl (hb hby at_65) ?_
        show Steps p.tables e below (T15.setTop (mkF m 66 #[.val (.long ta), .second, .val (.long tb), .second, .val (.int sel), .val (.long tc), .second, .val (.int (sel &&& (3 : Int32))), .val (.long r), .second, .val (.ref b1), .unset, .unset, .unset, .unset] [(.int (0 : Int32))])) _
        exact k
      exact ⟨(0 : Int32), _, _, X15, N15, e15, (by first | (simp [own_bi, hc58]; done) | contradiction), pre22⟩
  obtain ⟨ex, T19, Lo19, X19, N19, e19, hex, pre19⟩ := mrg19
  have pre24 : ∀ t, Steps p.tables e below (T19.setTop (mkF m 70 #[.val (.long ta), .second, .val (.long tb), .second, .val (.int sel), .val (.long tc), .second, .val (.int (sel &&& (3 : Int32))), .val (.long r), .second, .val (.ref b1), .val (.int ex), .unset, .unset, .unset] [(.ref b1)])) t → Steps p.tables e below (s₁.setTop (entryFrame m #[(.long ta), (.long tb), (.int sel), (.long tc)] maxLocals)) t := by
    intro t k
    refine pre19 t ?_
    refine XS.istore X19.here hx rfl (hb hby at_66) rfl (l' := #[.val (.long ta), .second, .val (.long tb), .second, .val (.int sel), .val (.long tc), .second, .val (.int (sel &&& (3 : Int32))), .val (.long r), .second, .val (.ref b1), .val (.int ex), .unset, .unset, .unset]) rfl ?_
    show Steps p.tables e below (T19.setTop (mkF m 68 #[.val (.long ta), .second, .val (.long tb), .second, .val (.int sel), .val (.long tc), .second, .val (.int (sel &&& (3 : Int32))), .val (.long r), .second, .val (.ref b1), .val (.int ex), .unset, .unset, .unset] [])) _
    refine XS.aload X19.here hx rfl (hb hby at_68) rfl rfl ?_
    show Steps p.tables e below (T19.setTop (mkF m 70 #[.val (.long ta), .second, .val (.long tb), .second, .val (.int sel), .val (.long tc), .second, .val (.int (sel &&& (3 : Int32))), .val (.long r), .second, .val (.ref b1), .val (.int ex), .unset, .unset, .unset] [(.ref b1)])) _
    exact k
  obtain ⟨cq26, kq26, q26a, q26b, q26c⟩ := isOf hZ e19 E17_0
  obtain ⟨_, _, ⟨T26, L26, k26, n26⟩, -, X26, ⟨Lc26, hQ26, l26, y26, z26⟩, st26⟩ := X19.virtualBack hx (y := (⟨"com/example/firmline/firmline/Call", "pending", "()Z"⟩ : MethodName)) (z := (⟨"com/example/firmline/firmline/Call", "pending", "()Z"⟩ : MethodName)) hown (mvT hZ (hw _ (List.mem_of_getElem? (i := 25) rfl))) (mvT hZ (hw _ (List.mem_of_getElem? (i := 26) rfl))) (notFace_of_selects (args := #[]) (mvT hZ (hw _ (List.mem_of_getElem? (i := 28) rfl)))) (mvT hZ (hw _ (List.mem_of_getElem? (i := 28) rfl))) (mvT hZ (hw _ (List.mem_of_getElem? (i := 27) rfl))) (by decide) (backOf (W := 0) (rm4 l Z a0 hw [] b1 r h15 n0 Z17 Fx4_15) hZ (hw _ (List.mem_of_getElem? (i := 29) rfl)) (hw _ (List.mem_of_getElem? (i := 3) rfl)) (by decide) (by decide)) q26a q26c (g := (mkF m 70 #[.val (.long ta), .second, .val (.long tb), .second, .val (.int sel), .val (.long tc), .second, .val (.int (sel &&& (3 : Int32))), .val (.long r), .second, .val (.ref b1), .val (.int ex), .unset, .unset, .unset] [(.ref b1)])) rfl (by rw [hml]; rfl) (Steps.refl _) (argsL := []) (rest := []) (lenOf pd_pz rfl) rfl (by show 2 * 0 + _ ≤ _; exact Nat.le_of_eq rfl) (hb hby at_70) (fun _ _ => ⟨rfl, e19, (by decide : 1 + 0 ≤ _), (by decide : 5 + 0 ≤ _)⟩)
  dsimp only [Pt.U, Pt.locs, Pt.cells, Pt.slots] at X26 l26 y26 z26 st26 hQ26
  subst l26 y26 z26
  obtain ⟨rfl, Nq26, heq26⟩ := hQ26
  have N26 := Fr.app N19 Nq26
  have pre27 : ∀ t, Steps p.tables e below (T26.setTop (mkF m 73 #[.val (.long ta), .second, .val (.long tb), .second, .val (.int sel), .val (.long tc), .second, .val (.int (sel &&& (3 : Int32))), .val (.long r), .second, .val (.ref b1), .val (.int ex), .unset, .unset, .unset] [(.int (own_bi (r = (9223372036854775807 : Int64))))])) t → Steps p.tables e below (s₁.setTop (entryFrame m #[(.long ta), (.long tb), (.int sel), (.long tc)] maxLocals)) t := fun t k => pre24 t (st26.trans k)
  have pre29 : ∀ t, Steps p.tables e below (T26.setTop (mkF m 89 #[.val (.long ta), .second, .val (.long tb), .second, .val (.int sel), .val (.long tc), .second, .val (.int (sel &&& (3 : Int32))), .val (.long r), .second, .val (.ref b1), .val (.int ex), .val (.int (1 : Int32)), .unset, .unset] [(.long ta), .null, (.int sel)])) t → Steps p.tables e below (s₁.setTop (entryFrame m #[(.long ta), (.long tb), (.int sel), (.long tc)] maxLocals)) t := by
    intro t k
    refine pre27 t ?_
    refine XS.iload X26.here hx rfl (hb hby at_73) rfl ?_
    show Steps p.tables e below (T26.setTop (mkF m 75 #[.val (.long ta), .second, .val (.long tb), .second, .val (.int sel), .val (.long tc), .second, .val (.int (sel &&& (3 : Int32))), .val (.long r), .second, .val (.ref b1), .val (.int ex), .unset, .unset, .unset] [(.int ex), (.int (own_bi (r = (9223372036854775807 : Int64))))])) _
    refine XS.icmpNo X26.here hx rfl (hb hby at_75) rfl (XT.ii_ne_f hex.symm) ?_
    show Steps p.tables e below (T26.setTop (mkF m 78 #[.val (.long ta), .second, .val (.long tb), .second, .val (.int sel), .val (.long tc), .second, .val (.int (sel &&& (3 : Int32))), .val (.long r), .second, .val (.ref b1), .val (.int ex), .unset, .unset, .unset] [])) _
    refine XS.iconst X26.here hx rfl (hb hby at_78) ?_
    show Steps p.tables e below (T26.setTop (mkF m 79 #[.val (.long ta), .second, .val (.long tb), .second, .val (.int sel), .val (.long tc), .second, .val (.int (sel &&& (3 : Int32))), .val (.long r), .second, .val (.ref b1), .val (.int ex), .unset, .unset, .unset] [(.int (1 : Int32))])) _
    refine XS.goto X26.here hx rfl (pc0 := 79) (pc' := 83) rfl (hb hby at_79) (by decide) (by decide) ?_
    show Steps p.tables e below (T26.setTop (mkF m 83 #[.val (.long ta), .second, .val (.long tb), .second, .val (.int sel), .val (.long tc), .second, .val (.int (sel &&& (3 : Int32))), .val (.long r), .second, .val (.ref b1), .val (.int ex), .unset, .unset, .unset] [(.int (1 : Int32))])) _
    refine XS.istore X26.here hx rfl (hb hby at_83) rfl (l' := #[.val (.long ta), .second, .val (.long tb), .second, .val (.int sel), .val (.long tc), .second, .val (.int (sel &&& (3 : Int32))), .val (.long r), .second, .val (.ref b1), .val (.int ex), .val (.int (1 : Int32)), .unset, .unset]) rfl ?_
    show Steps p.tables e below (T26.setTop (mkF m 85 #[.val (.long ta), .second, .val (.long tb), .second, .val (.int sel), .val (.long tc), .second, .val (.int (sel &&& (3 : Int32))), .val (.long r), .second, .val (.ref b1), .val (.int ex), .val (.int (1 : Int32)), .unset, .unset] [])) _
    refine XS.iload X26.here hx rfl (hb hby at_85) rfl ?_
    show Steps p.tables e below (T26.setTop (mkF m 87 #[.val (.long ta), .second, .val (.long tb), .second, .val (.int sel), .val (.long tc), .second, .val (.int (sel &&& (3 : Int32))), .val (.long r), .second, .val (.ref b1), .val (.int ex), .val (.int (1 : Int32)), .unset, .unset] [(.int sel)])) _
    refine XS.aconstNull X26.here hx rfl (hb hby at_87) ?_
    show Steps p.tables e below (T26.setTop (mkF m 88 #[.val (.long ta), .second, .val (.long tb), .second, .val (.int sel), .val (.long tc), .second, .val (.int (sel &&& (3 : Int32))), .val (.long r), .second, .val (.ref b1), .val (.int ex), .val (.int (1 : Int32)), .unset, .unset] [.null, (.int sel)])) _
    refine XT.lloadN X26.here hx rfl (hb hby at_88) rfl ?_
    show Steps p.tables e below (T26.setTop (mkF m 89 #[.val (.long ta), .second, .val (.long tb), .second, .val (.int sel), .val (.long tc), .second, .val (.int (sel &&& (3 : Int32))), .val (.long r), .second, .val (.ref b1), .val (.int ex), .val (.int (1 : Int32)), .unset, .unset] [(.long ta), .null, (.int sel)])) _
    exact k
  obtain ⟨_, _, ⟨T31, L31, k31, n31⟩, -, X31, ⟨Lc31, hQ31, l31, y31, z31⟩, st31⟩ := Jvm.LawKit.callS X26 hx (y := (⟨"com/example/firmline/firmline/Call", "pending", "(ILcom/example/firmline/firmline/Operation;J)Lcom/example/firmline/firmline/Call;"⟩ : MethodName)) hown (mvT hZ (hw _ (List.mem_of_getElem? (i := 31) rfl))) (mvT hZ (hw _ (List.mem_of_getElem? (i := 32) rfl))) (mvT hZ (hw _ (List.mem_of_getElem? (i := 3) rfl))) (mvT hZ (hw _ (List.mem_of_getElem? (i := 33) rfl))) (by decide) (backOf (W := 0) (rm5 l Z a0 hw [] sel ta h15 n0 Z17) hZ (hw _ (List.mem_of_getElem? (i := 33) rfl)) (hw _ (List.mem_of_getElem? (i := 3) rfl)) (by decide) (by decide)) (g := (mkF m 89 #[.val (.long ta), .second, .val (.long tb), .second, .val (.int sel), .val (.long tc), .second, .val (.int (sel &&& (3 : Int32))), .val (.long r), .second, .val (.ref b1), .val (.int ex), .val (.int (1 : Int32)), .unset, .unset] [(.long ta), .null, (.int sel)])) rfl (by rw [hml]; rfl) (argsL := [(.int sel), .null, (.long ta)]) (rest := []) (lenOf pd_pen rfl) rfl (by show 2 * 0 + _ ≤ _; exact Nat.le_of_eq rfl) (hb hby at_89) (fun _ _ => ⟨rfl, heq26, (by decide : 1 + 1 ≤ _), (by decide : 5 + 5 ≤ _)⟩)
  dsimp only [Pt.U, Pt.locs, Pt.cells, Pt.slots] at X31 l31 y31 z31 st31 hQ31
  subst l31 y31 z31
  obtain ⟨b2, rfl, Nq31, Kq31, gq31, Aq31, Fi31, Fr31⟩ := hQ31
  have N31 := Fr.app N26 Nq31
  have pre32 : ∀ t, Steps p.tables e below (T31.setTop (mkF m 92 #[.val (.long ta), .second, .val (.long tb), .second, .val (.int sel), .val (.long tc), .second, .val (.int (sel &&& (3 : Int32))), .val (.long r), .second, .val (.ref b1), .val (.int ex), .val (.int (1 : Int32)), .unset, .unset] [(.ref b2)])) t → Steps p.tables e below (s₁.setTop (entryFrame m #[(.long ta), (.long tb), (.int sel), (.long tc)] maxLocals)) t := fun t k => pre29 t (st31 t k)
  obtain ⟨h31, e31⟩ : ∃ z, T31.heap = z := ⟨_, rfl⟩
  have g_b2 : n0 ≤ b2 := Nat.le_trans Z17 gq31
  have ne_b1_b2 : b1 ≠ b2 := Nat.ne_of_lt (Nat.lt_of_lt_of_le Fx0_15.lt gq31)
  rw [e31] at Kq31 Aq31 Fi31 Fr31
  have F33_0 : Fld Z h31 b1 "com/example/firmline/firmline/Call" "process" "I" (.int sel) := (Fx0_15.keep Kq31 nin0)
  have F33_1 : Fld Z h31 b1 "com/example/firmline/firmline/Call" "operation" "Lcom/example/firmline/firmline/Operation;" .null := (Fx1_15.keep Kq31 nin0)
  have F33_2 : Fld Z h31 b1 "com/example/firmline/firmline/Call" "response" "Ljava/lang/Object;" .null := (Fx2_15.keep Kq31 nin0)
  have F33_3 : Fld Z h31 b1 "com/example/firmline/firmline/Call" "invoked" "J" (.long ta) := (Fx3_15.keep Kq31 nin0)
  have F33_4 : Fld Z h31 b1 "com/example/firmline/firmline/Call" "responded" "J" (.long r) := (Fx4_15.keep Kq31 nin0)
  have E33_0 : Exa Z h31 b1 "com/example/firmline/firmline/Call" := (E17_0.keep Kq31)
  have Z33 : n0 ≤ h31.size := (Nat.le_trans Z17 Kq31.1)
  have pre35 : ∀ t, Steps p.tables e below (T31.setTop (mkF m 101 #[.val (.long ta), .second, .val (.long tb), .second, .val (.int sel), .val (.long tc), .second, .val (.int (sel &&& (3 : Int32))), .val (.long r), .second, .val (.ref b1), .val (.int ex), .val (.int (1 : Int32)), .val (.ref b2), .unset] [(.ref b2)])) t → Steps p.tables e below (s₁.setTop (entryFrame m #[(.long ta), (.long tb), (.int sel), (.long tc)] maxLocals)) t := by
    intro t k
    refine pre32 t ?_
    refine XS.astore X31.here hx rfl (hb hby at_92) rfl rfl (l' := #[.val (.long ta), .second, .val (.long tb), .second, .val (.int sel), .val (.long tc), .second, .val (.int (sel &&& (3 : Int32))), .val (.long r), .second, .val (.ref b1), .val (.int ex), .val (.int (1 : Int32)), .val (.ref b2), .unset]) rfl ?_
    show Steps p.tables e below (T31.setTop (mkF m 94 #[.val (.long ta), .second, .val (.long tb), .second, .val (.int sel), .val (.long tc), .second, .val (.int (sel &&& (3 : Int32))), .val (.long r), .second, .val (.ref b1), .val (.int ex), .val (.int (1 : Int32)), .val (.ref b2), .unset] [])) _
    refine XS.iload X31.here hx rfl (hb hby at_94) rfl ?_
    show Steps p.tables e below (T31.setTop (mkF m 96 #[.val (.long ta), .second, .val (.long tb), .second, .val (.int sel), .val (.long tc), .second, .val (.int (sel &&& (3 : Int32))), .val (.long r), .second, .val (.ref b1), .val (.int ex), .val (.int (1 : Int32)), .val (.ref b2), .unset] [(.int (1 : Int32))])) _
    refine XS.ifNo X31.here hx rfl (hb hby at_96) rfl (XT.i0_eq_f (by decide)) ?_
    show Steps p.tables e below (T31.setTop (mkF m 99 #[.val (.long ta), .second, .val (.long tb), .second, .val (.int sel), .val (.long tc), .second, .val (.int (sel &&& (3 : Int32))), .val (.long r), .second, .val (.ref b1), .val (.int ex), .val (.int (1 : Int32)), .val (.ref b2), .unset] [])) _
    refine XS.aload X31.here hx rfl (hb hby at_99) rfl rfl ?_
    show Steps p.tables e below (T31.setTop (mkF m 101 #[.val (.long ta), .second, .val (.long tb), .second, .val (.int sel), .val (.long tc), .second, .val (.int (sel &&& (3 : Int32))), .val (.long r), .second, .val (.ref b1), .val (.int ex), .val (.int (1 : Int32)), .val (.ref b2), .unset] [(.ref b2)])) _
    exact k
  obtain ⟨cq37, kq37, q37a, q37b, q37c⟩ := isOf hZ e31 Aq31
  obtain ⟨_, _, ⟨T37, L37, k37, n37⟩, -, X37, ⟨Lc37, hQ37, l37, y37, z37⟩, st37⟩ := X31.virtualBack hx (y := (⟨"com/example/firmline/firmline/Call", "pending", "()Z"⟩ : MethodName)) (z := (⟨"com/example/firmline/firmline/Call", "pending", "()Z"⟩ : MethodName)) hown (mvT hZ (hw _ (List.mem_of_getElem? (i := 25) rfl))) (mvT hZ (hw _ (List.mem_of_getElem? (i := 26) rfl))) (notFace_of_selects (args := #[]) (mvT hZ (hw _ (List.mem_of_getElem? (i := 28) rfl)))) (mvT hZ (hw _ (List.mem_of_getElem? (i := 28) rfl))) (mvT hZ (hw _ (List.mem_of_getElem? (i := 27) rfl))) (by decide) (backOf (W := 0) (rm4 l Z a0 hw [] b2 (9223372036854775807 : Int64) h31 n0 Z33 Fr31) hZ (hw _ (List.mem_of_getElem? (i := 29) rfl)) (hw _ (List.mem_of_getElem? (i := 3) rfl)) (by decide) (by decide)) q37a q37c (g := (mkF m 101 #[.val (.long ta), .second, .val (.long tb), .second, .val (.int sel), .val (.long tc), .second, .val (.int (sel &&& (3 : Int32))), .val (.long r), .second, .val (.ref b1), .val (.int ex), .val (.int (1 : Int32)), .val (.ref b2), .unset] [(.ref b2)])) rfl (by rw [hml]; rfl) (Steps.refl _) (argsL := []) (rest := []) (lenOf pd_pz rfl) rfl (by show 2 * 0 + _ ≤ _; exact Nat.le_of_eq rfl) (hb hby at_101) (fun _ _ => ⟨rfl, e31, (by decide : 2 + 0 ≤ _), (by decide : 10 + 0 ≤ _)⟩)
  dsimp only [Pt.U, Pt.locs, Pt.cells, Pt.slots] at X37 l37 y37 z37 st37 hQ37
  subst l37 y37 z37
  obtain ⟨rfl, Nq37, heq37⟩ := hQ37
  have N37 := Fr.app N31 Nq37
  have pre38 : ∀ t, Steps p.tables e below (T37.setTop (mkF m 104 #[.val (.long ta), .second, .val (.long tb), .second, .val (.int sel), .val (.long tc), .second, .val (.int (sel &&& (3 : Int32))), .val (.long r), .second, .val (.ref b1), .val (.int ex), .val (.int (1 : Int32)), .val (.ref b2), .unset] [(.int (own_bi ((9223372036854775807 : Int64) = (9223372036854775807 : Int64))))])) t → Steps p.tables e below (s₁.setTop (entryFrame m #[(.long ta), (.long tb), (.int sel), (.long tc)] maxLocals)) t := fun t k => pre35 t (st37.trans k)
  have pre40 : ∀ t, Steps p.tables e below (T37.setTop (mkF m 114 #[.val (.long ta), .second, .val (.long tb), .second, .val (.int sel), .val (.long tc), .second, .val (.int (sel &&& (3 : Int32))), .val (.long r), .second, .val (.ref b1), .val (.int ex), .val (.int (1 : Int32)), .val (.ref b2), .unset] [])) t → Steps p.tables e below (s₁.setTop (entryFrame m #[(.long ta), (.long tb), (.int sel), (.long tc)] maxLocals)) t := by
    intro t k
    refine pre38 t ?_
    refine XS.ifNo X37.here hx rfl (hb hby at_104) rfl (XT.i0_eq_f (by decide)) ?_
    show Steps p.tables e below (T37.setTop (mkF m 107 #[.val (.long ta), .second, .val (.long tb), .second, .val (.int sel), .val (.long tc), .second, .val (.int (sel &&& (3 : Int32))), .val (.long r), .second, .val (.ref b1), .val (.int ex), .val (.int (1 : Int32)), .val (.ref b2), .unset] [])) _
    refine XS.iconst X37.here hx rfl (hb hby at_107) ?_
    show Steps p.tables e below (T37.setTop (mkF m 108 #[.val (.long ta), .second, .val (.long tb), .second, .val (.int sel), .val (.long tc), .second, .val (.int (sel &&& (3 : Int32))), .val (.long r), .second, .val (.ref b1), .val (.int ex), .val (.int (1 : Int32)), .val (.ref b2), .unset] [(.int (1 : Int32))])) _
    refine XS.goto X37.here hx rfl (pc0 := 108) (pc' := 112) rfl (hb hby at_108) (by decide) (by decide) ?_
    show Steps p.tables e below (T37.setTop (mkF m 112 #[.val (.long ta), .second, .val (.long tb), .second, .val (.int sel), .val (.long tc), .second, .val (.int (sel &&& (3 : Int32))), .val (.long r), .second, .val (.ref b1), .val (.int ex), .val (.int (1 : Int32)), .val (.ref b2), .unset] [(.int (1 : Int32))])) _
    refine XS.istore X37.here hx rfl (hb hby at_112) rfl (l' := #[.val (.long ta), .second, .val (.long tb), .second, .val (.int sel), .val (.long tc), .second, .val (.int (sel &&& (3 : Int32))), .val (.long r), .second, .val (.ref b1), .val (.int ex), .val (.int (1 : Int32)), .val (.ref b2), .unset]) rfl ?_
    show Steps p.tables e below (T37.setTop (mkF m 114 #[.val (.long ta), .second, .val (.long tb), .second, .val (.int sel), .val (.long tc), .second, .val (.int (sel &&& (3 : Int32))), .val (.long r), .second, .val (.ref b1), .val (.int ex), .val (.int (1 : Int32)), .val (.ref b2), .unset] [])) _
    exact k
  obtain ⟨T41, h41, X41, e41, E41, A41, D41, -, st41⟩ := newO X37 hx hZ hown (hw _ (List.mem_of_getElem? (i := 1) rfl)) (hw _ (List.mem_of_getElem? (i := 2) rfl)) (hw _ (List.mem_of_getElem? (i := 3) rfl)) heq37 (g := (mkF m 114 #[.val (.long ta), .second, .val (.long tb), .second, .val (.int sel), .val (.long tc), .second, .val (.int (sel &&& (3 : Int32))), .val (.long r), .second, .val (.ref b1), .val (.int ex), .val (.int (1 : Int32)), .val (.ref b2), .unset] [])) rfl (hb hby at_114) (by decide) (by decide)
  obtain ⟨b3, gz41⟩ : ∃ z, z = h31.size := ⟨_, rfl⟩
  rw [← gz41] at A41 D41 st41
  have g_b3 : n0 ≤ b3 := Nat.le_trans Z33 (Nat.le_of_eq gz41.symm)
  have ne_b1_b3 : b1 ≠ b3 := by rw [gz41]; exact Nat.ne_of_lt F33_0.lt
  have ne_b2_b3 : b2 ≠ b3 := by rw [gz41]; exact Nat.ne_of_lt Fi31.lt
  have F_process_b3 : Fld Z h41 b3 "com/example/firmline/firmline/Call" "process" "I" (.int (0 : Int32)) := D41 (Or.inr (hw _ (List.mem_of_getElem? (i := 16) rfl))) (ty := .int) (by decide)
  have F_operation_b3 : Fld Z h41 b3 "com/example/firmline/firmline/Call" "operation" "Lcom/example/firmline/firmline/Operation;" .null := D41 (Or.inr (hw _ (List.mem_of_getElem? (i := 18) rfl))) (ty := (.object "com/example/firmline/firmline/Operation")) (by decide)
  have F_response_b3 : Fld Z h41 b3 "com/example/firmline/firmline/Call" "response" "Ljava/lang/Object;" .null := D41 (Or.inr (hw _ (List.mem_of_getElem? (i := 20) rfl))) (ty := (.object "java/lang/Object")) (by decide)
  have F_invoked_b3 : Fld Z h41 b3 "com/example/firmline/firmline/Call" "invoked" "J" (.long (0 : Int64)) := D41 (Or.inr (hw _ (List.mem_of_getElem? (i := 22) rfl))) (ty := .long) (by decide)
  have F_responded_b3 : Fld Z h41 b3 "com/example/firmline/firmline/Call" "responded" "J" (.long (0 : Int64)) := D41 (Or.inr (hw _ (List.mem_of_getElem? (i := 24) rfl))) (ty := .long) (by decide)
  have pre42 : ∀ t, Steps p.tables e below (T41.setTop (mkF m 117 #[.val (.long ta), .second, .val (.long tb), .second, .val (.int sel), .val (.long tc), .second, .val (.int (sel &&& (3 : Int32))), .val (.long r), .second, .val (.ref b1), .val (.int ex), .val (.int (1 : Int32)), .val (.ref b2), .unset] [(.ref b3)])) t → Steps p.tables e below (s₁.setTop (entryFrame m #[(.long ta), (.long tb), (.int sel), (.long tc)] maxLocals)) t := fun t k => pre40 t (st41 t k)
  have F43_0 : Fld Z h41 b1 "com/example/firmline/firmline/Call" "process" "I" (.int sel) := (F33_0.ext E41)
  have F43_1 : Fld Z h41 b1 "com/example/firmline/firmline/Call" "operation" "Lcom/example/firmline/firmline/Operation;" .null := (F33_1.ext E41)
  have F43_2 : Fld Z h41 b1 "com/example/firmline/firmline/Call" "response" "Ljava/lang/Object;" .null := (F33_2.ext E41)
  have F43_3 : Fld Z h41 b1 "com/example/firmline/firmline/Call" "invoked" "J" (.long ta) := (F33_3.ext E41)
  have F43_4 : Fld Z h41 b1 "com/example/firmline/firmline/Call" "responded" "J" (.long r) := (F33_4.ext E41)
  have F43_5 : Fld Z h41 b2 "com/example/firmline/firmline/Call" "invoked" "J" (.long ta) := (Fi31.ext E41)
  have F43_6 : Fld Z h41 b2 "com/example/firmline/firmline/Call" "responded" "J" (.long (9223372036854775807 : Int64)) := (Fr31.ext E41)
  have E43_0 : Exa Z h41 b1 "com/example/firmline/firmline/Call" := (E33_0.ext E41)
  have E43_1 : Exa Z h41 b2 "com/example/firmline/firmline/Call" := (Aq31.ext E41)
  have Z43 : n0 ≤ h41.size := (Nat.le_trans Z33 E41.1)
  have pre45 : ∀ t, Steps p.tables e below (T41.setTop (mkF m 125 #[.val (.long ta), .second, .val (.long tb), .second, .val (.int sel), .val (.long tc), .second, .val (.int (sel &&& (3 : Int32))), .val (.long r), .second, .val (.ref b1), .val (.int ex), .val (.int (1 : Int32)), .val (.ref b2), .unset] [(.long tc), (.long tc), .null, .null, (.int (0 : Int32)), (.ref b3), (.ref b3)])) t → Steps p.tables e below (s₁.setTop (entryFrame m #[(.long ta), (.long tb), (.int sel), (.long tc)] maxLocals)) t := by
    intro t k
    refine pre42 t ?_
    refine XS.dup X41.here hx rfl (hb hby at_117) rfl rfl ?_
    show Steps p.tables e below (T41.setTop (mkF m 118 #[.val (.long ta), .second, .val (.long tb), .second, .val (.int sel), .val (.long tc), .second, .val (.int (sel &&& (3 : Int32))), .val (.long r), .second, .val (.ref b1), .val (.int ex), .val (.int (1 : Int32)), .val (.ref b2), .unset] [(.ref b3), (.ref b3)])) _
    refine XS.iconst X41.here hx rfl (hb hby at_118) ?_
    show Steps p.tables e below (T41.setTop (mkF m 119 #[.val (.long ta), .second, .val (.long tb), .second, .val (.int sel), .val (.long tc), .second, .val (.int (sel &&& (3 : Int32))), .val (.long r), .second, .val (.ref b1), .val (.int ex), .val (.int (1 : Int32)), .val (.ref b2), .unset] [(.int (0 : Int32)), (.ref b3), (.ref b3)])) _
    refine XS.aconstNull X41.here hx rfl (hb hby at_119) ?_
    show Steps p.tables e below (T41.setTop (mkF m 120 #[.val (.long ta), .second, .val (.long tb), .second, .val (.int sel), .val (.long tc), .second, .val (.int (sel &&& (3 : Int32))), .val (.long r), .second, .val (.ref b1), .val (.int ex), .val (.int (1 : Int32)), .val (.ref b2), .unset] [.null, (.int (0 : Int32)), (.ref b3), (.ref b3)])) _
    refine XS.aconstNull X41.here hx rfl (hb hby at_120) ?_
    show Steps p.tables e below (T41.setTop (mkF m 121 #[.val (.long ta), .second, .val (.long tb), .second, .val (.int sel), .val (.long tc), .second, .val (.int (sel &&& (3 : Int32))), .val (.long r), .second, .val (.ref b1), .val (.int ex), .val (.int (1 : Int32)), .val (.ref b2), .unset] [.null, .null, (.int (0 : Int32)), (.ref b3), (.ref b3)])) _
    refine XT.lload X41.here hx rfl (hb hby at_121) rfl ?_
    show Steps p.tables e below (T41.setTop (mkF m 123 #[.val (.long ta), .second, .val (.long tb), .second, .val (.int sel), .val (.long tc), .second, .val (.int (sel &&& (3 : Int32))), .val (.long r), .second, .val (.ref b1), .val (.int ex), .val (.int (1 : Int32)), .val (.ref b2), .unset] [(.long tc), .null, .null, (.int (0 : Int32)), (.ref b3), (.ref b3)])) _
    refine XT.lload X41.here hx rfl (hb hby at_123) rfl ?_
    show Steps p.tables e below (T41.setTop (mkF m 125 #[.val (.long ta), .second, .val (.long tb), .second, .val (.int sel), .val (.long tc), .second, .val (.int (sel &&& (3 : Int32))), .val (.long r), .second, .val (.ref b1), .val (.int ex), .val (.int (1 : Int32)), .val (.ref b2), .unset] [(.long tc), (.long tc), .null, .null, (.int (0 : Int32)), (.ref b3), (.ref b3)])) _
    exact k
  obtain ⟨_, _, ⟨T47, L47, k47, n47⟩, -, X47, ⟨Lc47, hQ47, l47, y47, z47⟩, st47⟩ := X41.specialBack hx (y := (⟨"com/example/firmline/firmline/Call", "<init>", "(ILcom/example/firmline/firmline/Operation;Ljava/lang/Object;JJ)V"⟩ : MethodName)) rfl hown (mvT hZ (hw _ (List.mem_of_getElem? (i := 4) rfl))) (mvT hZ (hw _ (List.mem_of_getElem? (i := 5) rfl))) (mvT hZ (hw _ (List.mem_of_getElem? (i := 6) rfl))) (by decide) (backOf (W := 1) (rm1 l Z a0 hw [] b3 (0 : Int32) tc tc h41 n0 Z43 A41 g_b3  F_process_b3 F_operation_b3 F_response_b3 F_invoked_b3 F_responded_b3) hZ (hw _ (List.mem_of_getElem? (i := 6) rfl)) (hw _ (List.mem_of_getElem? (i := 3) rfl)) (by decide) (by decide)) (g := (mkF m 125 #[.val (.long ta), .second, .val (.long tb), .second, .val (.int sel), .val (.long tc), .second, .val (.int (sel &&& (3 : Int32))), .val (.long r), .second, .val (.ref b1), .val (.int ex), .val (.int (1 : Int32)), .val (.ref b2), .unset] [(.long tc), (.long tc), .null, .null, (.int (0 : Int32)), (.ref b3), (.ref b3)])) rfl (by rw [hml]; rfl) (Steps.refl _) (a := b3) (argsL := [(.int (0 : Int32)), .null, .null, (.long tc), (.long tc)]) (rest := [(.ref b3)]) (lenOf pd_ini rfl) rfl (by show 2 * 0 + _ ≤ _; exact Nat.le_of_eq rfl) (hb hby at_125) (fun _ _ => ⟨rfl, e41, (by decide : 3 + 0 ≤ _), (by decide : 15 + 0 ≤ _)⟩)
  dsimp only [Pt.U, Pt.locs, Pt.cells, Pt.slots] at X47 l47 y47 z47 st47 hQ47
  subst l47 y47 z47
  obtain ⟨rfl, Nq47, Kq47, Fx0_47, Fx1_47, Fx2_47, Fx3_47, Fx4_47⟩ := hQ47
  have N47 := Fr.app N37 Nq47
  have pre48 : ∀ t, Steps p.tables e below (T47.setTop (mkF m 128 #[.val (.long ta), .second, .val (.long tb), .second, .val (.int sel), .val (.long tc), .second, .val (.int (sel &&& (3 : Int32))), .val (.long r), .second, .val (.ref b1), .val (.int ex), .val (.int (1 : Int32)), .val (.ref b2), .unset] [(.ref b3)])) t → Steps p.tables e below (s₁.setTop (entryFrame m #[(.long ta), (.long tb), (.int sel), (.long tc)] maxLocals)) t := fun t k => pre45 t (st47.trans k)
  obtain ⟨h47, e47⟩ : ∃ z, T47.heap = z := ⟨_, rfl⟩
  rw [e47] at Kq47 Fx0_47 Fx1_47 Fx2_47 Fx3_47 Fx4_47
  have F49_0 : Fld Z h47 b1 "com/example/firmline/firmline/Call" "process" "I" (.int sel) := (F43_0.keep Kq47 (ninS ne_b1_b3 nin0))
  have F49_1 : Fld Z h47 b1 "com/example/firmline/firmline/Call" "operation" "Lcom/example/firmline/firmline/Operation;" .null := (F43_1.keep Kq47 (ninS ne_b1_b3 nin0))
  have F49_2 : Fld Z h47 b1 "com/example/firmline/firmline/Call" "response" "Ljava/lang/Object;" .null := (F43_2.keep Kq47 (ninS ne_b1_b3 nin0))
  have F49_3 : Fld Z h47 b1 "com/example/firmline/firmline/Call" "invoked" "J" (.long ta) := (F43_3.keep Kq47 (ninS ne_b1_b3 nin0))
  have F49_4 : Fld Z h47 b1 "com/example/firmline/firmline/Call" "responded" "J" (.long r) := (F43_4.keep Kq47 (ninS ne_b1_b3 nin0))
  have F49_5 : Fld Z h47 b2 "com/example/firmline/firmline/Call" "invoked" "J" (.long ta) := (F43_5.keep Kq47 (ninS ne_b2_b3 nin0))
  have F49_6 : Fld Z h47 b2 "com/example/firmline/firmline/Call" "responded" "J" (.long (9223372036854775807 : Int64)) := (F43_6.keep Kq47 (ninS ne_b2_b3 nin0))
  have E49_0 : Exa Z h47 b1 "com/example/firmline/firmline/Call" := (E43_0.keep Kq47)
  have E49_1 : Exa Z h47 b2 "com/example/firmline/firmline/Call" := (E43_1.keep Kq47)
  have E49_2 : Exa Z h47 b3 "com/example/firmline/firmline/Call" := (A41.keep Kq47)
  have Z49 : n0 ≤ h47.size := (Nat.le_trans Z43 Kq47.1)
  have pre51 : ∀ t, Steps p.tables e below (T47.setTop (mkF m 139 #[.val (.long ta), .second, .val (.long tb), .second, .val (.int sel), .val (.long tc), .second, .val (.int (sel &&& (3 : Int32))), .val (.long r), .second, .val (.ref b1), .val (.int ex), .val (.int (1 : Int32)), .val (.ref b2), .val (.ref b3)] [(.ref b3), (.ref b2)])) t → Steps p.tables e below (s₁.setTop (entryFrame m #[(.long ta), (.long tb), (.int sel), (.long tc)] maxLocals)) t := by
    intro t k
    refine pre48 t ?_
    refine XS.astore X47.here hx rfl (hb hby at_128) rfl rfl (l' := #[.val (.long ta), .second, .val (.long tb), .second, .val (.int sel), .val (.long tc), .second, .val (.int (sel &&& (3 : Int32))), .val (.long r), .second, .val (.ref b1), .val (.int ex), .val (.int (1 : Int32)), .val (.ref b2), .val (.ref b3)]) rfl ?_
    show Steps p.tables e below (T47.setTop (mkF m 130 #[.val (.long ta), .second, .val (.long tb), .second, .val (.int sel), .val (.long tc), .second, .val (.int (sel &&& (3 : Int32))), .val (.long r), .second, .val (.ref b1), .val (.int ex), .val (.int (1 : Int32)), .val (.ref b2), .val (.ref b3)] [])) _
    refine XS.iload X47.here hx rfl (hb hby at_130) rfl ?_
    show Steps p.tables e below (T47.setTop (mkF m 132 #[.val (.long ta), .second, .val (.long tb), .second, .val (.int sel), .val (.long tc), .second, .val (.int (sel &&& (3 : Int32))), .val (.long r), .second, .val (.ref b1), .val (.int ex), .val (.int (1 : Int32)), .val (.ref b2), .val (.ref b3)] [(.int (1 : Int32))])) _
    refine XS.ifNo X47.here hx rfl (hb hby at_132) rfl (XT.i0_eq_f (by decide)) ?_
    show Steps p.tables e below (T47.setTop (mkF m 135 #[.val (.long ta), .second, .val (.long tb), .second, .val (.int sel), .val (.long tc), .second, .val (.int (sel &&& (3 : Int32))), .val (.long r), .second, .val (.ref b1), .val (.int ex), .val (.int (1 : Int32)), .val (.ref b2), .val (.ref b3)] [])) _
    refine XS.aload X47.here hx rfl (hb hby at_135) rfl rfl ?_
    show Steps p.tables e below (T47.setTop (mkF m 137 #[.val (.long ta), .second, .val (.long tb), .second, .val (.int sel), .val (.long tc), .second, .val (.int (sel &&& (3 : Int32))), .val (.long r), .second, .val (.ref b1), .val (.int ex), .val (.int (1 : Int32)), .val (.ref b2), .val (.ref b3)] [(.ref b2)])) _
    refine XS.aload X47.here hx rfl (hb hby at_137) rfl rfl ?_
    show Steps p.tables e below (T47.setTop (mkF m 139 #[.val (.long ta), .second, .val (.long tb), .second, .val (.int sel), .val (.long tc), .second, .val (.int (sel &&& (3 : Int32))), .val (.long r), .second, .val (.ref b1), .val (.int ex), .val (.int (1 : Int32)), .val (.ref b2), .val (.ref b3)] [(.ref b3), (.ref b2)])) _
    exact k
  obtain ⟨cq53, kq53, q53a, q53b, q53c⟩ := isOf hZ e47 E49_1
  obtain ⟨_, _, ⟨T53, L53, k53, n53⟩, -, X53, ⟨Lc53, hQ53, l53, y53, z53⟩, st53⟩ := X47.virtualBack hx (y := (⟨"com/example/firmline/firmline/Call", "precedes", "(Lcom/example/firmline/firmline/Call;)Z"⟩ : MethodName)) (z := (⟨"com/example/firmline/firmline/Call", "precedes", "(Lcom/example/firmline/firmline/Call;)Z"⟩ : MethodName)) hown (mvT hZ (hw _ (List.mem_of_getElem? (i := 36) rfl))) (mvT hZ (hw _ (List.mem_of_getElem? (i := 37) rfl))) (notFace_of_selects (args := #[]) (mvT hZ (hw _ (List.mem_of_getElem? (i := 39) rfl)))) (mvT hZ (hw _ (List.mem_of_getElem? (i := 39) rfl))) (mvT hZ (hw _ (List.mem_of_getElem? (i := 38) rfl))) (by decide) (backOf (W := 0) (rm6 l Z a0 hw [] b2 b3 (9223372036854775807 : Int64) tc h47 n0 Z49 F49_6 Fx3_47) hZ (hw _ (List.mem_of_getElem? (i := 40) rfl)) (hw _ (List.mem_of_getElem? (i := 3) rfl)) (by decide) (by decide)) q53a q53c (g := (mkF m 139 #[.val (.long ta), .second, .val (.long tb), .second, .val (.int sel), .val (.long tc), .second, .val (.int (sel &&& (3 : Int32))), .val (.long r), .second, .val (.ref b1), .val (.int ex), .val (.int (1 : Int32)), .val (.ref b2), .val (.ref b3)] [(.ref b3), (.ref b2)])) rfl (by rw [hml]; rfl) (Steps.refl _) (argsL := [(.ref b3)]) (rest := []) (lenOf pd_pre rfl) rfl (by show 2 * 0 + _ ≤ _; exact Nat.le_of_eq rfl) (hb hby at_139) (fun _ _ => ⟨rfl, e47, (by decide : 3 + 0 ≤ _), (by decide : 15 + 0 ≤ _)⟩)
  dsimp only [Pt.U, Pt.locs, Pt.cells, Pt.slots] at X53 l53 y53 z53 st53 hQ53
  subst l53 y53 z53
  obtain ⟨rfl, Nq53, heq53⟩ := hQ53
  have N53 := Fr.app N47 Nq53
  have pre54 : ∀ t, Steps p.tables e below (T53.setTop (mkF m 142 #[.val (.long ta), .second, .val (.long tb), .second, .val (.int sel), .val (.long tc), .second, .val (.int (sel &&& (3 : Int32))), .val (.long r), .second, .val (.ref b1), .val (.int ex), .val (.int (1 : Int32)), .val (.ref b2), .val (.ref b3)] [(.int (own_bi ((9223372036854775807 : Int64) < tc)))])) t → Steps p.tables e below (s₁.setTop (entryFrame m #[(.long ta), (.long tb), (.int sel), (.long tc)] maxLocals)) t := fun t k => pre51 t (st53.trans k)
  have pre55 : ∀ t, Steps p.tables e below (T53.setTop (mkF m 154 #[.val (.long ta), .second, .val (.long tb), .second, .val (.int sel), .val (.long tc), .second, .val (.int (sel &&& (3 : Int32))), .val (.long r), .second, .val (.ref b1), .val (.int ex), .val (.int (1 : Int32)), .val (.ref b2), .val (.ref b3)] [(.int (1 : Int32))])) t → Steps p.tables e below (s₁.setTop (entryFrame m #[(.long ta), (.long tb), (.int sel), (.long tc)] maxLocals)) t := by
    intro t k
    refine pre54 t ?_
    refine XS.ifNo X53.here hx rfl (hb hby at_142) rfl (XT.i0_ne_f (own_bi_f (own_max _))) ?_
    show Steps p.tables e below (T53.setTop (mkF m 145 #[.val (.long ta), .second, .val (.long tb), .second, .val (.int sel), .val (.long tc), .second, .val (.int (sel &&& (3 : Int32))), .val (.long r), .second, .val (.ref b1), .val (.int ex), .val (.int (1 : Int32)), .val (.ref b2), .val (.ref b3)] [])) _
    refine XS.iconst X53.here hx rfl (hb hby at_145) ?_
    show Steps p.tables e below (T53.setTop (mkF m 146 #[.val (.long ta), .second, .val (.long tb), .second, .val (.int sel), .val (.long tc), .second, .val (.int (sel &&& (3 : Int32))), .val (.long r), .second, .val (.ref b1), .val (.int ex), .val (.int (1 : Int32)), .val (.ref b2), .val (.ref b3)] [(.int (1 : Int32))])) _
    refine XS.goto X53.here hx rfl (pc0 := 146) (pc' := 150) rfl (hb hby at_146) (by decide) (by decide) ?_
    show Steps p.tables e below (T53.setTop (mkF m 150 #[.val (.long ta), .second, .val (.long tb), .second, .val (.int sel), .val (.long tc), .second, .val (.int (sel &&& (3 : Int32))), .val (.long r), .second, .val (.ref b1), .val (.int ex), .val (.int (1 : Int32)), .val (.ref b2), .val (.ref b3)] [(.int (1 : Int32))])) _
    refine XS.istore X53.here hx rfl (hb hby at_150) rfl (l' := #[.val (.long ta), .second, .val (.long tb), .second, .val (.int sel), .val (.long tc), .second, .val (.int (sel &&& (3 : Int32))), .val (.long r), .second, .val (.ref b1), .val (.int ex), .val (.int (1 : Int32)), .val (.ref b2), .val (.ref b3)]) rfl ?_
    show Steps p.tables e below (T53.setTop (mkF m 152 #[.val (.long ta), .second, .val (.long tb), .second, .val (.int sel), .val (.long tc), .second, .val (.int (sel &&& (3 : Int32))), .val (.long r), .second, .val (.ref b1), .val (.int ex), .val (.int (1 : Int32)), .val (.ref b2), .val (.ref b3)] [])) _
    refine XS.iload X53.here hx rfl (hb hby at_152) rfl ?_
    show Steps p.tables e below (T53.setTop (mkF m 154 #[.val (.long ta), .second, .val (.long tb), .second, .val (.int sel), .val (.long tc), .second, .val (.int (sel &&& (3 : Int32))), .val (.long r), .second, .val (.ref b1), .val (.int ex), .val (.int (1 : Int32)), .val (.ref b2), .val (.ref b3)] [(.int (1 : Int32))])) _
    exact k
  obtain ⟨fs, hr, hrun, hended, hW, hsame⟩ := X53.leave (v := some (.int (1 : Int32))) (fun h => by rw [Bd.returns] at h; cases h)
  refine ⟨_, _, pre55 _ ?_, hrun, hended, _, _, rfl, ?_, ⟨_, rfl⟩, hW, hsame.mono (by decide) (by decide)⟩
  · exact retOut X53 hx Bd.returns rfl (Or.inl ⟨rfl, by simp, _, rfl⟩) (hb hby at_154) hr
  · show Qlaw Z ta tb sel tc h0 n0 _ T53.heap _
    rw [heq53]
    exact ⟨rfl, N53⟩
set_option maxRecDepth 65536 in
set_option maxHeartbeats 40000000 in
theorem comes_1 {Post : Tables → Env → Array Value → State → Outcome → State → Prop} (hpost : ∀ tb e args s v u, (limb_1_1.after args s (.returned v) u = true ∧ limb_1_2.after args s (.returned v) u = true ∧ True) → FrameEnd s (.returned v) u (Jvm.fieldLocs frame_1_writes args s ++ Jvm.arrayLocs frame_1_arrays args s ++ Jvm.staticLocs frame_1_statics s) 16 128 → Post tb e args s (.returned v) u) :
    ArmFor flags0 classFile x code maxLocals ret World_1 tables_1 room_1 Calls_1 rest_1 Pre_1 Post := by
  intro l hfl _ _ p e ha hc hk s m args below hf hA hF happ hP
  obtain ⟨hcalls, hrest, hpre⟩ := hP
  obtain ⟨-, -, -, hnamed, -, -, -, hat⟩ := (Spec.applies_iff hf).mp happ
  obtain ⟨hg, hn⟩ := and_e (Cond.before_iff.mp (show (Jvm.Cond.and given_1 narrow_1).before args s = true from hpre))
  obtain ⟨gc, g0⟩ := and_e hg
  obtain ⟨w0, w1, w2, w3, rfl⟩ : ∃ w0 w1 w2 w3 : Value, args = #[w0, w1, w2, w3] := by
    have hs : args.size = 4 := by simpa [Cond.value, given_1] using gc
    obtain ⟨L⟩ := args
    match L, hs with
    | [w0, w1, w2, w3], _ => exact ⟨w0, w1, w2, w3, rfl⟩
  have hw := fun d (hd : d ∈ tables_1) => atoms_spec (ws := Jvm.Cond.code x code maxLocals ret :: tables_1) hat d (List.mem_cons_of_mem _ hd)
  have hfit : Fit s := fun {y c} hc i hi => by
    obtain ⟨ha, rfl⟩ := Array.getElem?_eq_some_iff.mp hc
    have q := List.all_eq_true.mp ((Array.all_eq_true_iff_forall_mem.mp hF) _ (Array.getElem_mem ha)) i (List.mem_range.mpr hi)
    simpa [Array.getElem?_eq_getElem hi] using q
  obtain ⟨ga0, gb0⟩ := and_e g0
  obtain ⟨i0, ei0⟩ := isL_v ga0
  obtain rfl : w0 = (.long i0) := Option.some.inj ei0
  obtain ⟨ga1, gb1⟩ := and_e gb0
  obtain ⟨i1, ei1⟩ := isL_v ga1
  obtain rfl : w1 = (.long i1) := Option.some.inj ei1
  obtain ⟨ga2, gb2⟩ := and_e gb1
  obtain ⟨i2, ei2⟩ := is_v ga2
  obtain rfl : w2 = (.int i2) := Option.some.inj ei2
  obtain ⟨i3, ei3⟩ := isL_v gb2
  obtain rfl : w3 = (.long i3) := Option.some.inj ei3
  obtain ⟨n, o, h1, h2, h3, _, L, rfl, ⟨rfl, N⟩, hq⟩ := rmlaw l s _ hw tables_1 i0 i1 i2 i3 s.heap s.heap.size (Nat.le_refl _)  p e ha hc hk s m _ below hf ((Spec.applies_iff_loose hf).mp happ).1 ⟨rfl, State.Warmed39.refl s, rfl⟩ trivial
  refine ⟨n, _, h1, h2, h3, hpost _ _ _ _ _ _ ⟨Cond.after_iff.mpr rfl, Cond.after_iff.mpr (eq_i res_at (Term.int_eval (1)) rfl), trivial⟩ ⟨hq.1, hq.2.1, (hq.2.2.sift fun y hy => Or.inr (N y hy)).mono (by decide) (by decide)⟩⟩
theorem main_1_1 : Claimed_1_1 := comes_1 fun _ _ _ _ _ _ h hF => ⟨h.1, hF⟩
theorem main_1_2 : Claimed_1_2 := comes_1 fun _ _ _ _ _ _ h hF => ⟨h.2.1, hF⟩
end Jvm.Pilot.@@N@@
namespace Jvm.Pilot.@@N@@
open Jvm Jvm.ClassFile Sem Op Lib Jvm.Free Jvm.Stand Jvm.Pilot.@@N@@.Jvm.D
/-! MADE BY PROGRAM (witnessworld.py) out of the Statement's table words and the real class files: 10 classes; the members and pool entries that the words name. The judged class is class 1, her method 1. -/
namespace start1
open Jvm.ClassFile
def u (s : String) : CpInfo := .utf8 (stringToUtf16 s)
/-- a pool by its gaps: so many unusable entries, then the entry; so many at the end -/
def gap : Nat → List CpInfo → List CpInfo
  | 0, r => r
  | n + 1, r => .unusable :: gap n r
def poolList (es : List (Nat × CpInfo)) (last : Nat) : List CpInfo := es.foldr (fun e r => gap e.1 (e.2 :: r)) (gap last [])
def pool (es : List (Nat × CpInfo)) (last : Nat) : Array CpInfo := ⟨poolList es last⟩
def fileOf (pool : Array CpInfo) (this : Nat) (attrs : Array Attribute := #[]) (ms : Array MethodInfo := #[]) (fl : Nat := 33) (sup : Nat := 0) (ifs : Array Nat := #[]) (fds : Array FieldInfo := #[]) : ClassFile where
  minorVersion := 0
  majorVersion := 65
  constantPool := pool
  accessFlags := fl
  thisClass := this
  superClass := sup
  interfaces := ifs
  fields := fds
  methods := ms
  attributes := attrs
def plain (name : String) (sup : Option ClassId) : Class where
  name := name
  kind := .ordinary
  loader := none
  accessFlags := 33
  super := sup
  interfaces := #[]
  cf := none
  fields := #[]
  methods := #[]
  instanceTypes := #[]
  staticTypes := #[]
  resolved := #[]
  callSites := []
  init := .initialized
  statics := none
  mirror := none

def pool0 : Array CpInfo := pool [(5, u "<init>"), (0, u "()V"), (1, .class_ 10), (1, u "java/lang/Object")] 113

def k0c0 : Code := { maxStack := 0, maxLocals := 1, code := object_method_1_code, exceptionTable := #[], attributes := #[] }
def k0m0 : Method := { name := "<init>", desc := "()V", sig := { parameters := [], returnType := none }, accessFlags := 1, code := some k0c0 }
/-- java/lang/Object -/
def k0 : Class := { plain "java/lang/Object" none with
  accessFlags := 33
  interfaces := #[]
  cf := some (fileOf pool0 8 #[] #[{ accessFlags := 1, nameIndex := 5, descriptorIndex := 6, attributes := #[] }] 33 0 #[] #[])
  fields := #[]
  methods := #[k0m0]
  instanceTypes := #[]
  staticTypes := #[]
  resolved := Array.replicate 124 none
  statics := none }

def pool1 : Array CpInfo := pool [(2, .class_ 4), (1, u "java/lang/Object"), (0, u "<init>"), (0, u "()V"), (2, .long 9223372036854775807), (1, .long 9223372036854775806), (1, .class_ 14), (0, u "com/example/firmline/firmline/Call"), (0, .methodref 13 16), (0, .nameAndType 5 17), (0, u "(ILcom/example/firmline/firmline/Operation;Ljava/lang/Object;JJ)V"), (0, .methodref 13 19), (0, .nameAndType 20 21), (0, u "pending"), (0, u "()Z"), (0, .methodref 13 23), (0, .nameAndType 20 24), (0, u "(ILcom/example/firmline/firmline/Operation;J)Lcom/example/firmline/firmline/Call;"), (0, .methodref 13 26), (0, .nameAndType 27 28), (0, u "precedes"), (0, u "(Lcom/example/firmline/firmline/Call;)Z"), (0, .class_ 30), (0, u "com/example/firmline/firmline/CallPendingPinLaw"), (2, u "law"), (0, u "(JJIJ)Z")] 3

def k1m0 : Method := { name := "<init>", desc := "()V", sig := { parameters := [], returnType := none }, accessFlags := 2, code := none }
def k1c1 : Code := { maxStack := 9, maxLocals := 15, code := code, exceptionTable := #[], attributes := #[] }
def k1m1 : Method := { name := "law", desc := "(JJIJ)Z", sig := { parameters := [.long, .long, .int, .long], returnType := some .boolean }, accessFlags := 9, code := some k1c1 }
/-- com/example/firmline/firmline/CallPendingPinLaw -/
def k1 : Class := { plain "com/example/firmline/firmline/CallPendingPinLaw" (some 0) with
  accessFlags := 49
  interfaces := #[]
  cf := some (fileOf pool1 29 #[] #[{ accessFlags := 2, nameIndex := 5, descriptorIndex := 6, attributes := #[] }, { accessFlags := 9, nameIndex := 33, descriptorIndex := 34, attributes := #[] }] 49 2 #[] #[])
  fields := #[]
  methods := #[k1m0, k1m1]
  instanceTypes := #[]
  staticTypes := #[]
  resolved := Array.replicate 38 none
  statics := none }

def pool2 : Array CpInfo := pool [(1, .methodref 2 3), (0, .class_ 4), (0, .nameAndType 5 6), (0, u "java/lang/Object"), (0, u "<init>"), (0, u "()V"), (0, .class_ 8), (0, u "java/lang/Record")] 13

def k2c0 : Code := { maxStack := 1, maxLocals := 1, code := jdk_30_method_1_code, exceptionTable := #[], attributes := #[] }
def k2m0 : Method := { name := "<init>", desc := "()V", sig := { parameters := [], returnType := none }, accessFlags := 4, code := some k2c0 }
/-- java/lang/Record -/
def k2 : Class := { plain "java/lang/Record" (some 0) with
  accessFlags := 1057
  interfaces := #[]
  cf := some (fileOf pool2 7 #[] #[{ accessFlags := 4, nameIndex := 5, descriptorIndex := 6, attributes := #[] }] 1057 2 #[] #[])
  fields := #[]
  methods := #[k2m0]
  instanceTypes := #[]
  staticTypes := #[]
  resolved := Array.replicate 22 none
  statics := none }

def pool3 : Array CpInfo := pool [(3, .methodref 4 5), (0, .class_ 6), (0, .nameAndType 7 8), (0, u "java/lang/Record"), (0, u "<init>"), (0, u "()V"), (0, .fieldref 10 11), (0, .class_ 12), (0, .nameAndType 13 14), (0, u "com/example/firmline/firmline/Call"), (0, u "process"), (0, u "I"), (0, .fieldref 10 16), (0, .nameAndType 17 18), (0, u "operation"), (0, u "Lcom/example/firmline/firmline/Operation;"), (0, .fieldref 10 20), (0, .nameAndType 21 22), (0, u "response"), (0, u "Ljava/lang/Object;"), (0, .fieldref 10 24), (0, .nameAndType 25 26), (0, u "invoked"), (0, u "J"), (0, .fieldref 10 28), (0, .nameAndType 29 26), (0, u "responded"), (0, .long 9223372036854775807), (1, .methodref 10 33), (0, .nameAndType 7 34), (0, u "(ILcom/example/firmline/firmline/Operation;Ljava/lang/Object;JJ)V"), (12, u "PENDING"), (4, u "pending"), (0, u "(ILcom/example/firmline/firmline/Operation;J)Lcom/example/firmline/firmline/Call;"), (0, u "()Z"), (1, u "precedes"), (0, u "(Lcom/example/firmline/firmline/Call;)Z")] 30

def k3c0 : Code := { maxStack := 3, maxLocals := 8, code := prog_21_method_1_code, exceptionTable := #[], attributes := #[] }
def k3m0 : Method := { name := "<init>", desc := "(ILcom/example/firmline/firmline/Operation;Ljava/lang/Object;JJ)V", sig := { parameters := [.int, (.object "com/example/firmline/firmline/Operation"), (.object "java/lang/Object"), .long, .long], returnType := none }, accessFlags := 0, code := some k3c0 }
def k3c1 : Code := { maxStack := 9, maxLocals := 4, code := prog_21_method_2_code, exceptionTable := #[], attributes := #[] }
def k3m1 : Method := { name := "pending", desc := "(ILcom/example/firmline/firmline/Operation;J)Lcom/example/firmline/firmline/Call;", sig := { parameters := [.int, (.object "com/example/firmline/firmline/Operation"), .long], returnType := some (.object "com/example/firmline/firmline/Call") }, accessFlags := 8, code := some k3c1 }
def k3c2 : Code := { maxStack := 4, maxLocals := 1, code := prog_21_method_3_code, exceptionTable := #[], attributes := #[] }
def k3m2 : Method := { name := "pending", desc := "()Z", sig := { parameters := [], returnType := some .boolean }, accessFlags := 0, code := some k3c2 }
def k3c3 : Code := { maxStack := 4, maxLocals := 2, code := prog_21_method_4_code, exceptionTable := #[], attributes := #[] }
def k3m3 : Method := { name := "precedes", desc := "(Lcom/example/firmline/firmline/Call;)Z", sig := { parameters := [(.object "com/example/firmline/firmline/Call")], returnType := some .boolean }, accessFlags := 0, code := some k3c3 }
/-- com/example/firmline/firmline/Call -/
def k3 : Class := { plain "com/example/firmline/firmline/Call" (some 2) with
  accessFlags := 48
  interfaces := #[]
  cf := some (fileOf pool3 10 #[] #[{ accessFlags := 0, nameIndex := 7, descriptorIndex := 34, attributes := #[] }, { accessFlags := 8, nameIndex := 52, descriptorIndex := 53, attributes := #[] }, { accessFlags := 0, nameIndex := 52, descriptorIndex := 54, attributes := #[] }, { accessFlags := 0, nameIndex := 56, descriptorIndex := 57, attributes := #[] }] 48 4 #[] #[{ accessFlags := 18, nameIndex := 13, descriptorIndex := 14, attributes := #[] }, { accessFlags := 18, nameIndex := 17, descriptorIndex := 18, attributes := #[] }, { accessFlags := 18, nameIndex := 21, descriptorIndex := 22, attributes := #[] }, { accessFlags := 18, nameIndex := 25, descriptorIndex := 26, attributes := #[] }, { accessFlags := 18, nameIndex := 29, descriptorIndex := 26, attributes := #[] }, { accessFlags := 24, nameIndex := 47, descriptorIndex := 26, attributes := #[] }])
  fields := #[{ name := "process", type := .int, accessFlags := 18, slot := 0, constantValue := 0 }, { name := "operation", type := (.object "com/example/firmline/firmline/Operation"), accessFlags := 18, slot := 1, constantValue := 0 }, { name := "response", type := (.object "java/lang/Object"), accessFlags := 18, slot := 2, constantValue := 0 }, { name := "invoked", type := .long, accessFlags := 18, slot := 3, constantValue := 0 }, { name := "responded", type := .long, accessFlags := 18, slot := 4, constantValue := 0 }, { name := "PENDING", type := .long, accessFlags := 24, slot := 0, constantValue := 0 }]
  methods := #[k3m0, k3m1, k3m2, k3m3]
  instanceTypes := #[.int, (.object "com/example/firmline/firmline/Operation"), (.object "java/lang/Object"), .long, .long]
  staticTypes := #[.long]
  resolved := Array.replicate 88 none
  statics := none }

def pool4 : Array CpInfo := pool [(1, u "java/lang/Cloneable"), (0, .class_ 1), (0, u "java/lang/Object"), (0, .class_ 3)] 3

/-- java/lang/Cloneable -/
def k4 : Class := { plain "java/lang/Cloneable" (some 0) with
  accessFlags := 1537
  interfaces := #[]
  cf := some (fileOf pool4 2 #[] #[] 1537 4 #[] #[])
  fields := #[]
  methods := #[]
  instanceTypes := #[]
  staticTypes := #[]
  resolved := Array.replicate 8 none
  statics := none }

def pool5 : Array CpInfo := pool [(1, u "java/io/Serializable"), (0, .class_ 1), (0, u "java/lang/Object"), (0, .class_ 3)] 3

/-- java/io/Serializable -/
def k5 : Class := { plain "java/io/Serializable" (some 0) with
  accessFlags := 1537
  interfaces := #[]
  cf := some (fileOf pool5 2 #[] #[] 1537 4 #[] #[])
  fields := #[]
  methods := #[]
  instanceTypes := #[]
  staticTypes := #[]
  resolved := Array.replicate 8 none
  statics := none }

/-- the primitive byte -/
def k6 : Class := { plain "byte" none with kind := .primitive 'B', accessFlags := 0x411 }
/-- [B -/
def k7 : Class := { plain "[B" (some 0) with kind := .array 6 .byte, interfaces := #[4, 5], accessFlags := 1041 }

/-- the primitive int -/
def k8 : Class := { plain "int" none with kind := .primitive 'I', accessFlags := 0x411 }
/-- [I -/
def k9 : Class := { plain "[I" (some 0) with kind := .array 8 .int, interfaces := #[4, 5], accessFlags := 1041 }

def heap : Heap := #[]
def classes : Array Class := #[k0, k1, k2, k3, k4, k5, k6, k7, k8, k9]
def interned : List (Array UInt16 × Addr) := []
def slotsUsed : Nat := 0
def theMethod : MethodId := ⟨1, 1⟩
def args0 : Array Value := #[.long 1, .long 2, .int 3, .long 4]
def aboutOver (below : List Frame) : State where
  vm := { classes := classes, interned := interned.toArray }
  heap := heap
  slotsUsed := slotsUsed
  threads := #[{ frames := .invoking theMethod args0 :: below }]
def below0 : List Frame := [.native { method := ⟨0, 0⟩, args := #[] }]
def about1 : State := aboutOver below0
def p0 : Program := .bare "" "" ""
def e0 : Env := launch0.env 0 0 0
theorem w_frames : about1.frames = Frame.invoking theMethod args0 :: below0 := rfl
set_option maxRecDepth 65536 in
theorem w_args : argsFit about1.vm theMethod args0 = true := by decide +kernel
set_option maxRecDepth 65536 in
theorem w_heap : heapFits about1 = true := by decide +kernel
set_option maxRecDepth 65536 in
theorem w_runnable : about1.curStatus? = some .runnable := by decide +kernel
set_option maxRecDepth 65536 in
theorem w_alone : about1.alone = true := by decide +kernel
set_option maxRecDepth 65536 in
theorem w_named : about1.methodNamed? x = some theMethod := by decide +kernel
set_option maxRecDepth 65536 in
theorem w_hears : about1.hears theMethod below0 = true := by decide +kernel
set_option maxRecDepth 65536 in
theorem w_ripe : about1.ripe theMethod args0 below0 = true := by decide +kernel
theorem w_running : about1.status = .running := rfl
set_option maxRecDepth 65536 in
theorem w_room : about1.hasRoom e0.platform room_1 = true :=
  launch0.hasRoom_least _ room_1 (by decide +kernel) (by decide +kernel) (by decide +kernel) (by decide +kernel) (by decide +kernel) (by decide +kernel)
theorem allAtoms_all (ts : List Jvm.Cond) (a : Array Jvm.Value) (st : Jvm.State) : (allAtoms ts).before a st = ts.all (fun c => c.before a st) := by
  induction ts with
  | nil => rfl
  | cons c t ih =>
    show (Jvm.Cond.and c (allAtoms t)).before a st = _
    rw [Jvm.Cond.before_and, ih, List.all_cons]
def words1 : List Jvm.Cond := Jvm.Cond.code x code maxLocals ret :: tables_1
/-- a 'code' word, met by the world's own term for the bytes: nothing is compared byte by byte -/
theorem code_word {y : MethodName} {bytes : ByteArray} {mx : Nat} {rt : Option FieldType} {a : Array Value} {s : State} {m : MethodId} {meth : Method} {c : Code} (h1 : s.methodNamed? y = some m) (h2 : s.vm.method? m = some meth) (h3 : meth.code = some c) (h4 : c.code = bytes)
    (h5 : (c.maxLocals == mx && c.exceptionTable.isEmpty && decide (c.maxStack ≤ mostOperands) && decide (meth.sig.returnType = rt) && !meth.locks && decide (parseMethodDescriptor y.desc = some meth.sig)) = true) : (Jvm.Cond.code y bytes mx rt).before a s = true := by
  simp only [Bool.and_eq_true, beq_iff_eq, Bool.not_eq_true', decide_eq_true_eq] at h5
  obtain ⟨⟨⟨⟨⟨g1, g2⟩, g3⟩, g4⟩, g5⟩, g6⟩ := h5
  simp [Cond.before, Cond.holds, Cond.value, h1, h2, h3, h4, g1, g2, g3, g4, g5, g6]
def isCode : Jvm.Cond → Bool
  | .code _ _ _ _ => true
  | _ => false
theorem all_split {L : List Jvm.Cond} {P : Jvm.Cond → Bool} (h1 : L.all (fun c => isCode c || P c) = true) (h2 : ∀ c ∈ L.filter isCode, P c = true) : L.all P = true := by
  refine List.all_eq_true.mpr fun c hc => ?_
  have h := List.all_eq_true.mp h1 c hc
  rcases Bool.eq_false_or_eq_true (isCode c) with hi | hi
  · exact h2 c (List.mem_filter.mpr ⟨hc, hi⟩)
  · simpa [hi] using h
set_option maxRecDepth 65536 in
theorem w_c0 : (Jvm.Cond.code x code maxLocals ret).before args0 about1 = true := code_word (m := ⟨1, 1⟩) (meth := k1m1) (c := k1c1) (by decide +kernel) rfl rfl rfl (by decide +kernel)
set_option maxRecDepth 65536 in
theorem w_c1 : (Jvm.Cond.code ({ cls := "com/example/firmline/firmline/Call", name := "<init>", desc := "(ILcom/example/firmline/firmline/Operation;Ljava/lang/Object;JJ)V" } : Jvm.MethodName) prog_21_method_1_code (8 : Nat) (Option.none : Option Jvm.ClassFile.FieldType)).before args0 about1 = true := code_word (m := ⟨3, 0⟩) (meth := k3m0) (c := k3c0) (by decide +kernel) rfl rfl rfl (by decide +kernel)
set_option maxRecDepth 65536 in
theorem w_c2 : (Jvm.Cond.code ({ cls := "java/lang/Record", name := "<init>", desc := "()V" } : Jvm.MethodName) jdk_30_method_1_code (1 : Nat) (Option.none : Option Jvm.ClassFile.FieldType)).before args0 about1 = true := code_word (m := ⟨2, 0⟩) (meth := k2m0) (c := k2c0) (by decide +kernel) rfl rfl rfl (by decide +kernel)
set_option maxRecDepth 65536 in
theorem w_c3 : (Jvm.Cond.code ({ cls := "java/lang/Object", name := "<init>", desc := "()V" } : Jvm.MethodName) object_method_1_code (1 : Nat) (Option.none : Option Jvm.ClassFile.FieldType)).before args0 about1 = true := code_word (m := ⟨0, 0⟩) (meth := k0m0) (c := k0c0) (by decide +kernel) rfl rfl rfl (by decide +kernel)
set_option maxRecDepth 65536 in
theorem w_c4 : (Jvm.Cond.code ({ cls := "com/example/firmline/firmline/Call", name := "pending", desc := "()Z" } : Jvm.MethodName) prog_21_method_3_code (1 : Nat) (Option.some Jvm.ClassFile.FieldType.boolean)).before args0 about1 = true := code_word (m := ⟨3, 2⟩) (meth := k3m2) (c := k3c2) (by decide +kernel) rfl rfl rfl (by decide +kernel)
set_option maxRecDepth 65536 in
theorem w_c5 : (Jvm.Cond.code ({ cls := "com/example/firmline/firmline/Call", name := "pending", desc := "(ILcom/example/firmline/firmline/Operation;J)Lcom/example/firmline/firmline/Call;" } : Jvm.MethodName) prog_21_method_2_code (4 : Nat) (Option.some (Jvm.ClassFile.FieldType.object "com/example/firmline/firmline/Call"))).before args0 about1 = true := code_word (m := ⟨3, 1⟩) (meth := k3m1) (c := k3c1) (by decide +kernel) rfl rfl rfl (by decide +kernel)
set_option maxRecDepth 65536 in
theorem w_c6 : (Jvm.Cond.code ({ cls := "com/example/firmline/firmline/Call", name := "precedes", desc := "(Lcom/example/firmline/firmline/Call;)Z" } : Jvm.MethodName) prog_21_method_4_code (2 : Nat) (Option.some Jvm.ClassFile.FieldType.boolean)).before args0 about1 = true := code_word (m := ⟨3, 3⟩) (meth := k3m3) (c := k3c3) (by decide +kernel) rfl rfl rfl (by decide +kernel)
def codes1 : List Jvm.Cond := [Jvm.Cond.code x code maxLocals ret, Jvm.Cond.code ({ cls := "com/example/firmline/firmline/Call", name := "<init>", desc := "(ILcom/example/firmline/firmline/Operation;Ljava/lang/Object;JJ)V" } : Jvm.MethodName) prog_21_method_1_code (8 : Nat) (Option.none : Option Jvm.ClassFile.FieldType), Jvm.Cond.code ({ cls := "java/lang/Record", name := "<init>", desc := "()V" } : Jvm.MethodName) jdk_30_method_1_code (1 : Nat) (Option.none : Option Jvm.ClassFile.FieldType), Jvm.Cond.code ({ cls := "java/lang/Object", name := "<init>", desc := "()V" } : Jvm.MethodName) object_method_1_code (1 : Nat) (Option.none : Option Jvm.ClassFile.FieldType), Jvm.Cond.code ({ cls := "com/example/firmline/firmline/Call", name := "pending", desc := "()Z" } : Jvm.MethodName) prog_21_method_3_code (1 : Nat) (Option.some Jvm.ClassFile.FieldType.boolean), Jvm.Cond.code ({ cls := "com/example/firmline/firmline/Call", name := "pending", desc := "(ILcom/example/firmline/firmline/Operation;J)Lcom/example/firmline/firmline/Call;" } : Jvm.MethodName) prog_21_method_2_code (4 : Nat) (Option.some (Jvm.ClassFile.FieldType.object "com/example/firmline/firmline/Call")), Jvm.Cond.code ({ cls := "com/example/firmline/firmline/Call", name := "precedes", desc := "(Lcom/example/firmline/firmline/Call;)Z" } : Jvm.MethodName) prog_21_method_4_code (2 : Nat) (Option.some Jvm.ClassFile.FieldType.boolean)]
set_option maxRecDepth 65536 in
theorem codes_eq : words1.filter isCode = codes1 := rfl
theorem w_codes : ∀ c ∈ words1.filter isCode, c.before args0 about1 = true := by
  rw [codes_eq]
  intro c hc
  simp only [codes1, List.mem_cons, List.not_mem_nil, or_false] at hc
  rcases hc with rfl | rfl | rfl | rfl | rfl | rfl | rfl
  · exact w_c0
  · exact w_c1
  · exact w_c2
  · exact w_c3
  · exact w_c4
  · exact w_c5
  · exact w_c6
set_option maxRecDepth 65536 in
theorem w_t1 : (words1.take 24).all (fun c => isCode c || c.before args0 about1) = true := by decide +kernel
set_option maxRecDepth 65536 in
theorem w_t2 : (words1.drop 24).all (fun c => isCode c || c.before args0 about1) = true := by decide +kernel
theorem w_tables : (allAtoms (Jvm.Cond.code x code maxLocals ret :: tables_1)).before args0 about1 = true := by
  rw [allAtoms_all]
  show words1.all (fun c => c.before args0 about1) = true
  refine all_split ?_ w_codes
  rw [← List.take_append_drop 24 words1, List.all_append, w_t1, w_t2]
  rfl
set_option maxRecDepth 65536 in
theorem w_case : (Jvm.Cond.and given_1 narrow_1).before args0 about1 = true := by decide +kernel
theorem w_applies : (headSpec (Jvm.Cond.code x code maxLocals ret :: tables_1) room_1).applies x e0.platform about1 = true :=
  (Spec.applies_iff w_frames).mpr ⟨w_running, w_runnable, w_alone, w_named, w_hears, w_ripe, w_room, w_tables⟩
theorem atStart : AtStart classFile x code maxLocals ret World_1 tables_1 room_1 Calls_1 rest_1 Pre_1 launch0 p0 e0 about1 theMethod args0 below0 :=
  ⟨lists_1, trivial, launch0.admits_env _ _ _, launch0.least_env, fairChoices_fair.cas, fairChoices_fair.clock, w_frames, w_args, w_heap, w_applies, trivial, trivial, w_case⟩
end start1
theorem witness_1 : WitnessClaimed_1 := ⟨start1.p0, start1.e0, start1.about1, start1.theMethod, start1.args0, start1.below0, start1.atStart⟩
end Jvm.Pilot.@@N@@
