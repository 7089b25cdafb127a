import JvmDerived
import JvmDerived.Pilot.@@N@@Statement
import JvmDerived.Pilot.@@N@@Code
set_option linter.unusedVariables false
set_option linter.unusedSimpArgs false
namespace Jvm.Pilot.@@N@@
open Jvm Jvm.ClassFile Sem Op Lib Jvm.Free Jvm.Stand Jvm.LawKit Jvm.RoadKit Bundle Jvm.Pilot.@@N@@.Jvm.D
def own_bi (P : Prop) [Decidable P] : Int32 := if P then 1 else 0
theorem own_bi_t {P : Prop} [Decidable P] (h : P) : own_bi P = 1 := if_pos h
theorem own_bi_f {P : Prop} [Decidable P] (h : ¬ P) : own_bi P = 0 := if_neg h
theorem own_bi_01 (P : Prop) [Decidable P] : own_bi P = 0 ∨ own_bi P = 1 := by by_cases h : P <;> simp [own_bi, h]
theorem own_bi_eq {P Q : Prop} [Decidable P] [Decidable Q] (h : P ↔ Q) : own_bi P = own_bi Q := by by_cases q : P <;> simp [own_bi, q, ← h]
theorem own_bi_iff (P : Prop) [Decidable P] : own_bi P = 1 ↔ P := by by_cases q : P <;> simp [own_bi, q]
theorem own_bi_ne (P : Prop) [Decidable P] : own_bi P = 0 ↔ ¬ P := by by_cases q : P <;> simp [own_bi, q]
theorem own_ofNat {n : Nat} (h : n < 2147483648) : (Int32.ofNat n).toInt = (n : Int) := len_toInt h
theorem own_narZ {z : Int32} (h : z = 0 ∨ z = 1) : narrow .boolean (.int z) = .int z := by rcases h with rfl | rfl <;> rfl
theorem own_law {x y z a b c : Int32} (ha : a = x &&& 536870911) (hb : b = a + (y &&& 536870911)) (hc : c = (b + 1) + (z &&& 536870911)) :
    ((a - a) + 1 = 1) ∧ (¬ ((b - a) + 1) < 1) ∧ (¬ ((c - (b + 1)) + 1) < 1) ∧ ((b - a) + 1) + ((c - (b + 1)) + 1) = ((c - a) + 1) := by
  have h1 := c_mask x 536870911 29 (by decide) (by decide)
  have h2 := c_mask y 536870911 29 (by decide) (by decide)
  have h3 := c_mask z 536870911 29 (by decide) (by decide)
  rw [← ha] at h1
  generalize (y &&& 536870911) = y' at *
  generalize (z &&& 536870911) = z' at *
  have o1 : (1 : Int32).toInt = 1 := rfl
  have eb : b.toInt = a.toInt + y'.toInt := by
    have k := c_iadd a y'; have r := rng32 b; rw [← hb] at k; omega
  have eb1 : (b + 1).toInt = b.toInt + 1 := by
    have k := c_iadd b 1; have r := rng32 (b + 1); rw [o1] at k; omega
  have ec : c.toInt = b.toInt + 1 + z'.toInt := by
    have k := c_iadd (b + 1) z'; have r := rng32 c; rw [← hc] at k; omega
  have e1 : (b - a).toInt = b.toInt - a.toInt := by
    have k := c_isub b a; have r := rng32 (b - a); omega
  have e2 : (b - a + 1).toInt = b.toInt - a.toInt + 1 := by
    have k := c_iadd (b - a) 1; have r := rng32 (b - a + 1); rw [o1] at k; omega
  have e3 : (c - (b + 1)).toInt = c.toInt - b.toInt - 1 := by
    have k := c_isub c (b + 1); have r := rng32 (c - (b + 1)); omega
  have e4 : (c - (b + 1) + 1).toInt = c.toInt - b.toInt := by
    have k := c_iadd (c - (b + 1)) 1; have r := rng32 (c - (b + 1) + 1); rw [o1] at k; omega
  have e5 : (c - a).toInt = c.toInt - a.toInt := by
    have k := c_isub c a; have r := rng32 (c - a); omega
  have e6 : (c - a + 1).toInt = c.toInt - a.toInt + 1 := by
    have k := c_iadd (c - a) 1; have r := rng32 (c - a + 1); rw [o1] at k; omega
  have e7 : (b - a + 1 + (c - (b + 1) + 1)).toInt = c.toInt - a.toInt + 1 := by
    have k := c_iadd (b - a + 1) (c - (b + 1) + 1); have r := rng32 (b - a + 1 + (c - (b + 1) + 1)); omega
  have e8 : (a - a + 1).toInt = 1 := by
    have k := c_isub a a; have r := rng32 (a - a); have k2 := c_iadd (a - a) 1; have r2 := rng32 (a - a + 1); rw [o1] at k2; omega
  refine ⟨Int32.toInt_inj.mp (e8.trans o1.symm), ?_, ?_, Int32.toInt_inj.mp (e7.trans e6.symm)⟩
  · rw [Int32.lt_iff_toInt_lt, o1, e2]; omega
  · rw [Int32.lt_iff_toInt_lt, o1, e4]; omega
theorem pn_2 : plainName "java/lang/Record" = true := by first | (simp [plainName, overriddenIn]; done) | decide +kernel
theorem d2_0 : decode jdk_30_method_1_code 0 = .ok (.aload_n 0, 1) := by decide +kernel
theorem d2_1 : decode jdk_30_method_1_code 1 = .ok (.invokespecial 1, 3) := by decide +kernel
theorem d2_4 : decode jdk_30_method_1_code 4 = .ok (.return_, 1) := by decide +kernel
theorem ef_2 (m : MethodId) (a1 : Addr) : entryFrame m #[(.ref a1)] 1 = mkF m 0 #[.val (.ref a1)] [] := by first | (simp [entryFrame, mkF, argsToLocals, Value.category]; done) | rfl
def Q2 (Z : State) (a1 : Addr) (h0 : Heap) (n0 : Nat) (v : Option Value) (h : Heap) (L : List Loc) : Prop := v = none ∧ Fr n0 L ∧ h = h0
set_option maxRecDepth 65536 in
set_option maxHeartbeats 40000000 in
theorem rm2 (l : Launch) (Z : State) (a0 : Array Value) (hw : ∀ d ∈ tables_1, d.before a0 Z = true) (ws : List Jvm.Cond) (a1 : Addr) (h0 : Heap) (n0 : Nat) (Z0 : n0 ≤ h0.size) :
    MetFree l (⟨"java/lang/Record", "<init>", "()V"⟩ : MethodName) (head1 (Jvm.Cond.code (⟨"java/lang/Record", "<init>", "()V"⟩ : MethodName) jdk_30_method_1_code 1 none :: ws) ({ frames := 1, cells := 0, slots := 0, locals := 12 } : Room)) (fun a U => a = #[(.ref a1)] ∧ Z.Warmed39 U.vm ∧ U.heap = h0) (fun _ _ _ _ _ => True) (fun _ U o U' => ∃ v L, o = .returned v ∧ Q2 Z a1 h0 n0 v U'.heap L ∧ FrameEnd U o U' L ({ frames := 1, cells := 0, slots := 0, locals := 12 } : Room).cells ({ frames := 1, cells := 0, slots := 0, locals := 12 } : Room).slots) := by
  refine MetFree.of_bodySF (plainFor_of_name pn_2) hisR ?_
  intro p e s m args below meth c s₁ Bd hml0 hP hK
  obtain ⟨rfl, hZ, hh⟩ := hP
  have hx := Bd.exec
  have hby := Bd.bytes
  have hml : c.maxLocals = 1 := hml0
  have hown : s.vm.findClass "java/lang/Record" = some m.cls := findClass_of_methodNamed Bd.named
  have hnm := (name_of_methodNamed Bd.named Bd.method).1
  have X0 : Stand p l e ({ frames := 1, cells := 0, slots := 0, locals := 12 } : Room) s m #[(.ref a1)] below meth c s₁ [] 0 0 := Stand.of_body Bd
  have e0 : s₁.heap = h0 := by rw [← hh, Bd.state]; rfl
  have N0 := Fr.nil n0
  have pre0 : ∀ t, Steps p.tables e below (s₁.setTop (mkF m 0 #[.val (.ref a1)] [])) t → Steps p.tables e below (s₁.setTop (entryFrame m #[(.ref a1)] 1)) t := fun t k => castTop (ef_2 m a1) k
  have pre1 : ∀ t, Steps p.tables e below (s₁.setTop (mkF m 1 #[.val (.ref a1)] [(.ref a1)])) t → Steps p.tables e below (s₁.setTop (entryFrame m #[(.ref a1)] 1)) t := by
    intro t k
    refine pre0 t ?_
    refine XS.aloadN X0.here hx rfl (hb hby d2_0) rfl rfl ?_
    show Steps p.tables e below (s₁.setTop (mkF m 1 #[.val (.ref a1)] [(.ref a1)])) _
    exact k
  obtain ⟨T2, X2, e2, st2⟩ := initO X0 hx hZ hown (hw _ (List.mem_of_getElem? (i := 15) rfl)) (hw _ (List.mem_of_getElem? (i := 16) rfl)) (hw _ (List.mem_of_getElem? (i := 17) rfl)) e0 (g := (mkF m 1 #[.val (.ref a1)] [(.ref a1)])) rfl (by rw [hml]; rfl) rfl (hb hby d2_1) (by decide) (W := 0) (by show 2 * 0 + _ ≤ _; exact Nat.le_of_eq rfl) (by decide)
  have pre3 : ∀ t, Steps p.tables e below (T2.setTop (mkF m 4 #[.val (.ref a1)] [])) t → Steps p.tables e below (s₁.setTop (entryFrame m #[(.ref a1)] 1)) t := fun t k => pre1 t (st2 t k)
  obtain ⟨fs, hr, hrun, hended, hW, hsame⟩ := X2.leave (v := none) (fun _ => rfl)
  refine ⟨_, _, pre3 _ ?_, hrun, hended, _, _, rfl, ?_, ⟨_, rfl⟩, hW, hsame.mono (by decide) (by decide)⟩
  · exact X2.returnOut hx Bd.returns (hb hby d2_4) hr
  · show Q2 Z a1 h0 n0 _ T2.heap _
    rw [e2]
    exact ⟨rfl, N0, rfl⟩
theorem pd_sup1 : parseMethodDescriptor "()V" = some ⟨[], none⟩ := by decide +kernel
theorem pn_1 : plainName "com/example/firmline/firmline/ProcessReplay$Span" = true := by first | (simp [plainName, overriddenIn]; done) | decide +kernel
theorem d1_0 : decode prog_82_method_1_code 0 = .ok (.aload_n 0, 1) := by decide +kernel
theorem d1_1 : decode prog_82_method_1_code 1 = .ok (.invokespecial 1, 3) := by decide +kernel
theorem d1_4 : decode prog_82_method_1_code 4 = .ok (.aload_n 0, 1) := by decide +kernel
theorem d1_5 : decode prog_82_method_1_code 5 = .ok (.aload_n 1, 1) := by decide +kernel
theorem d1_6 : decode prog_82_method_1_code 6 = .ok (.putfield 7, 3) := by decide +kernel
theorem d1_9 : decode prog_82_method_1_code 9 = .ok (.aload_n 0, 1) := by decide +kernel
theorem d1_10 : decode prog_82_method_1_code 10 = .ok (.aload_n 2, 1) := by decide +kernel
theorem d1_11 : decode prog_82_method_1_code 11 = .ok (.putfield 13, 3) := by decide +kernel
theorem d1_14 : decode prog_82_method_1_code 14 = .ok (.aload_n 0, 1) := by decide +kernel
theorem d1_15 : decode prog_82_method_1_code 15 = .ok (.iload_n 3, 1) := by decide +kernel
theorem d1_16 : decode prog_82_method_1_code 16 = .ok (.putfield 17, 3) := by decide +kernel
theorem d1_19 : decode prog_82_method_1_code 19 = .ok (.aload_n 0, 1) := by decide +kernel
theorem d1_20 : decode prog_82_method_1_code 20 = .ok (.iload 4, 2) := by decide +kernel
theorem d1_22 : decode prog_82_method_1_code 22 = .ok (.putfield 21, 3) := by decide +kernel
theorem d1_25 : decode prog_82_method_1_code 25 = .ok (.return_, 1) := by decide +kernel
theorem ef_1 (m : MethodId) (a1 : Addr) (p1 : Addr) (p3 : Int32) (p4 : Int32) : entryFrame m #[(.ref a1), (.ref p1), .null, (.int p3), (.int p4)] 5 = mkF m 0 #[.val (.ref a1), .val (.ref p1), .val .null, .val (.int p3), .val (.int p4)] [] := by first | (simp [entryFrame, mkF, argsToLocals, Value.category]; done) | rfl
def Q1 (Z : State) (a1 : Addr) (p1 : Addr) (p3 : Int32) (p4 : Int32) (h0 : Heap) (n0 : Nat) (v : Option Value) (h : Heap) (L : List Loc) : Prop := v = none ∧ Fr n0 L ∧ Keep h0 h [a1] ∧ Fld Z h a1 "com/example/firmline/firmline/ProcessReplay$Span" "operation" "Lcom/example/firmline/firmline/Operation;" (.ref p1) ∧ Fld Z h a1 "com/example/firmline/firmline/ProcessReplay$Span" "response" "Ljava/lang/Object;" .null ∧ Fld Z h a1 "com/example/firmline/firmline/ProcessReplay$Span" "firstStep" "I" (.int p3) ∧ Fld Z h a1 "com/example/firmline/firmline/ProcessReplay$Span" "lastStep" "I" (.int p4)
set_option maxRecDepth 65536 in
set_option maxHeartbeats 40000000 in
theorem rm1 (l : Launch) (Z : State) (a0 : Array Value) (hw : ∀ d ∈ tables_1, d.before a0 Z = true) (ws : List Jvm.Cond) (a1 : Addr) (p1 : Addr) (p3 : Int32) (p4 : Int32) (h0 : Heap) (n0 : Nat) (Z0 : n0 ≤ h0.size) (E1 : Exa Z h0 a1 "com/example/firmline/firmline/ProcessReplay$Span") (ga1 : n0 ≤ a1) (Fd0 : Fld Z h0 a1 "com/example/firmline/firmline/ProcessReplay$Span" "operation" "Lcom/example/firmline/firmline/Operation;" .null) (Fd1 : Fld Z h0 a1 "com/example/firmline/firmline/ProcessReplay$Span" "response" "Ljava/lang/Object;" .null) (Fd2 : Fld Z h0 a1 "com/example/firmline/firmline/ProcessReplay$Span" "firstStep" "I" (.int (0 : Int32))) (Fd3 : Fld Z h0 a1 "com/example/firmline/firmline/ProcessReplay$Span" "lastStep" "I" (.int (0 : Int32))) :
    MetFree l (⟨"com/example/firmline/firmline/ProcessReplay$Span", "<init>", "(Lcom/example/firmline/firmline/Operation;Ljava/lang/Object;II)V"⟩ : MethodName) (head1 (Jvm.Cond.code (⟨"com/example/firmline/firmline/ProcessReplay$Span", "<init>", "(Lcom/example/firmline/firmline/Operation;Ljava/lang/Object;II)V"⟩ : MethodName) prog_82_method_1_code 5 none :: ws) ({ frames := 2, cells := 0, slots := 0, locals := 24 } : Room)) (fun a U => a = #[(.ref a1), (.ref p1), .null, (.int p3), (.int p4)] ∧ Z.Warmed39 U.vm ∧ U.heap = h0) (fun _ _ _ _ _ => True) (fun _ U o U' => ∃ v L, o = .returned v ∧ Q1 Z a1 p1 p3 p4 h0 n0 v U'.heap L ∧ FrameEnd U o U' L ({ frames := 2, cells := 0, slots := 0, locals := 24 } : Room).cells ({ frames := 2, cells := 0, slots := 0, locals := 24 } : Room).slots) := by
  refine MetFree.of_bodySF (plainFor_of_name pn_1) hisR ?_
  intro p e s m args below meth c s₁ Bd hml0 hP hK
  obtain ⟨rfl, hZ, hh⟩ := hP
  have hx := Bd.exec
  have hby := Bd.bytes
  have hml : c.maxLocals = 5 := hml0
  have hown : s.vm.findClass "com/example/firmline/firmline/ProcessReplay$Span" = some m.cls := findClass_of_methodNamed Bd.named
  have hnm := (name_of_methodNamed Bd.named Bd.method).1
  have X0 : Stand p l e ({ frames := 2, cells := 0, slots := 0, locals := 24 } : Room) s m #[(.ref a1), (.ref p1), .null, (.int p3), (.int p4)] below meth c s₁ [] 0 0 := Stand.of_body Bd
  have e0 : s₁.heap = h0 := by rw [← hh, Bd.state]; rfl
  have N0 := Fr.nil n0
  have pre0 : ∀ t, Steps p.tables e below (s₁.setTop (mkF m 0 #[.val (.ref a1), .val (.ref p1), .val .null, .val (.int p3), .val (.int p4)] [])) t → Steps p.tables e below (s₁.setTop (entryFrame m #[(.ref a1), (.ref p1), .null, (.int p3), (.int p4)] 5)) t := fun t k => castTop (ef_1 m a1 p1 p3 p4) k
  have pre2 : ∀ t, Steps p.tables e below (s₁.setTop (mkF m 1 #[.val (.ref a1), .val (.ref p1), .val .null, .val (.int p3), .val (.int p4)] [(.ref a1)])) t → Steps p.tables e below (s₁.setTop (entryFrame m #[(.ref a1), (.ref p1), .null, (.int p3), (.int p4)] 5)) t := by
    intro t k
    refine pre0 t ?_
    refine XS.aloadN X0.here hx rfl (hb hby d1_0) rfl rfl ?_
    show Steps p.tables e below (s₁.setTop (mkF m 1 #[.val (.ref a1), .val (.ref p1), .val .null, .val (.int p3), .val (.int p4)] [(.ref a1)])) _
    exact k
  have K1 : Keep h0 h0 [a1] := (Keep.refl h0 [a1])
  obtain ⟨_, _, ⟨T3, L3, k3, n3⟩, -, X3, ⟨Lc3, hQ3, l3, y3, z3⟩, st3⟩ := X0.specialBack hx (y := (⟨"java/lang/Record", "<init>", "()V"⟩ : MethodName)) rfl hown (mvT hZ (hw _ (List.mem_of_getElem? (i := 10) rfl))) (mvT hZ (hw _ (List.mem_of_getElem? (i := 11) rfl))) (mvT hZ (hw _ (List.mem_of_getElem? (i := 14) rfl))) (by decide) (backOf (W := 0) (rm2 l Z a0 hw [] a1 h0 n0 Z0) hZ (hw _ (List.mem_of_getElem? (i := 14) rfl)) (hw _ (List.mem_of_getElem? (i := 13) rfl)) (by decide) (by decide)) (g := (mkF m 1 #[.val (.ref a1), .val (.ref p1), .val .null, .val (.int p3), .val (.int p4)] [(.ref a1)])) rfl (by rw [hml]; rfl) (Steps.refl _) (a := a1) (argsL := []) (rest := []) (lenOf pd_sup1 rfl) rfl (by show 2 * 0 + _ ≤ _; exact Nat.le_of_eq rfl) (hb hby d1_1) (fun _ _ => ⟨rfl, e0, (by decide : 0 + 0 ≤ _), (by decide : 0 + 0 ≤ _)⟩)
  dsimp only [Pt.U, Pt.locs, Pt.cells, Pt.slots] at X3 l3 y3 z3 st3 hQ3
  subst l3 y3 z3
  obtain ⟨rfl, Nq3, heq3⟩ := hQ3
  have N3 := Fr.app N0 Nq3
  have pre4 : ∀ t, Steps p.tables e below (T3.setTop (mkF m 4 #[.val (.ref a1), .val (.ref p1), .val .null, .val (.int p3), .val (.int p4)] [])) t → Steps p.tables e below (s₁.setTop (entryFrame m #[(.ref a1), (.ref p1), .null, (.int p3), (.int p4)] 5)) t := fun t k => pre2 t (st3.trans k)
  have pre6 : ∀ t, Steps p.tables e below (T3.setTop (mkF m 6 #[.val (.ref a1), .val (.ref p1), .val .null, .val (.int p3), .val (.int p4)] [(.ref p1), (.ref a1)])) t → Steps p.tables e below (s₁.setTop (entryFrame m #[(.ref a1), (.ref p1), .null, (.int p3), (.int p4)] 5)) t := by
    intro t k
    refine pre4 t ?_
    refine XS.aloadN X3.here hx rfl (hb hby d1_4) rfl rfl ?_
    show Steps p.tables e below (T3.setTop (mkF m 5 #[.val (.ref a1), .val (.ref p1), .val .null, .val (.int p3), .val (.int p4)] [(.ref a1)])) _
    refine XS.aloadN X3.here hx rfl (hb hby d1_5) rfl rfl ?_
    show Steps p.tables e below (T3.setTop (mkF m 6 #[.val (.ref a1), .val (.ref p1), .val .null, .val (.int p3), .val (.int p4)] [(.ref p1), (.ref a1)])) _
    exact k
  obtain ⟨T7, h7, X7, e7, W7, st7⟩ := putF X3 hx hZ hown (host := "") (Or.inl (hw _ (List.mem_of_getElem? (i := 18) rfl))) Via.refl heq3 Fd0 E1 (Or.inr ⟨(hw _ (List.mem_of_getElem? (i := 19) rfl)), rfl, hnm⟩) (hw _ (List.mem_of_getElem? (i := 5) rfl)) (ty := (.object "com/example/firmline/firmline/Operation")) (by decide) rfl rfl (g := (mkF m 6 #[.val (.ref a1), .val (.ref p1), .val .null, .val (.int p3), .val (.int p4)] [(.ref p1), (.ref a1)])) rfl rfl (hb hby d1_6)
  have N7 := Fr.snoc X7 N3 ga1
  have pre8 : ∀ t, Steps p.tables e below (T7.setTop (mkF m 9 #[.val (.ref a1), .val (.ref p1), .val .null, .val (.int p3), .val (.int p4)] [])) t → Steps p.tables e below (s₁.setTop (entryFrame m #[(.ref a1), (.ref p1), .null, (.int p3), (.int p4)] 5)) t := fun t k => pre6 t (st7 t k)
  have F9_0 : Fld Z h7 a1 "com/example/firmline/firmline/ProcessReplay$Span" "operation" "Lcom/example/firmline/firmline/Operation;" (.ref p1) := (Fd0.same W7)
  have F9_1 : Fld Z h7 a1 "com/example/firmline/firmline/ProcessReplay$Span" "response" "Ljava/lang/Object;" .null := (Fd1.other W7 (Or.inr (slot_ne (Or.inr (hw _ (List.mem_of_getElem? (i := 21) rfl))) (Or.inr (hw _ (List.mem_of_getElem? (i := 19) rfl))) (by decide) (t := (.object "java/lang/Object")) (t' := (.object "com/example/firmline/firmline/Operation")) (by decide) (by decide))))
  have F9_2 : Fld Z h7 a1 "com/example/firmline/firmline/ProcessReplay$Span" "firstStep" "I" (.int (0 : Int32)) := (Fd2.other W7 (Or.inr (slot_ne (Or.inr (hw _ (List.mem_of_getElem? (i := 23) rfl))) (Or.inr (hw _ (List.mem_of_getElem? (i := 19) rfl))) (by decide) (t := .int) (t' := (.object "com/example/firmline/firmline/Operation")) (by decide) (by decide))))
  have F9_3 : Fld Z h7 a1 "com/example/firmline/firmline/ProcessReplay$Span" "lastStep" "I" (.int (0 : Int32)) := (Fd3.other W7 (Or.inr (slot_ne (Or.inr (hw _ (List.mem_of_getElem? (i := 25) rfl))) (Or.inr (hw _ (List.mem_of_getElem? (i := 19) rfl))) (by decide) (t := .int) (t' := (.object "com/example/firmline/firmline/Operation")) (by decide) (by decide))))
  have E9_0 : Exa Z h7 a1 "com/example/firmline/firmline/ProcessReplay$Span" := (E1.wr W7)
  have K9 : Keep h0 h7 [a1] := (K1.wr W7 (Or.inl (List.mem_of_getElem? (i := 0) rfl)))
  have Z9 : n0 ≤ h7.size := (Nat.le_trans Z0 (Nat.le_of_eq W7.size.symm))
  have pre11 : ∀ t, Steps p.tables e below (T7.setTop (mkF m 11 #[.val (.ref a1), .val (.ref p1), .val .null, .val (.int p3), .val (.int p4)] [.null, (.ref a1)])) t → Steps p.tables e below (s₁.setTop (entryFrame m #[(.ref a1), (.ref p1), .null, (.int p3), (.int p4)] 5)) t := by
    intro t k
    refine pre8 t ?_
    refine XS.aloadN X7.here hx rfl (hb hby d1_9) rfl rfl ?_
    show Steps p.tables e below (T7.setTop (mkF m 10 #[.val (.ref a1), .val (.ref p1), .val .null, .val (.int p3), .val (.int p4)] [(.ref a1)])) _
    refine XS.aloadN X7.here hx rfl (hb hby d1_10) rfl rfl ?_
    show Steps p.tables e below (T7.setTop (mkF m 11 #[.val (.ref a1), .val (.ref p1), .val .null, .val (.int p3), .val (.int p4)] [.null, (.ref a1)])) _
    exact k
  obtain ⟨T12, h12, X12, e12, W12, st12⟩ := putF X7 hx hZ hown (host := "") (Or.inl (hw _ (List.mem_of_getElem? (i := 20) rfl))) Via.refl e7 F9_1 E9_0 (Or.inr ⟨(hw _ (List.mem_of_getElem? (i := 21) rfl)), rfl, hnm⟩) (hw _ (List.mem_of_getElem? (i := 5) rfl)) (ty := (.object "java/lang/Object")) (by decide) rfl rfl (g := (mkF m 11 #[.val (.ref a1), .val (.ref p1), .val .null, .val (.int p3), .val (.int p4)] [.null, (.ref a1)])) rfl rfl (hb hby d1_11)
  have N12 := Fr.snoc X12 N7 ga1
  have pre13 : ∀ t, Steps p.tables e below (T12.setTop (mkF m 14 #[.val (.ref a1), .val (.ref p1), .val .null, .val (.int p3), .val (.int p4)] [])) t → Steps p.tables e below (s₁.setTop (entryFrame m #[(.ref a1), (.ref p1), .null, (.int p3), (.int p4)] 5)) t := fun t k => pre11 t (st12 t k)
  have F14_0 : Fld Z h12 a1 "com/example/firmline/firmline/ProcessReplay$Span" "operation" "Lcom/example/firmline/firmline/Operation;" (.ref p1) := (F9_0.other W12 (Or.inr (slot_ne (Or.inr (hw _ (List.mem_of_getElem? (i := 19) rfl))) (Or.inr (hw _ (List.mem_of_getElem? (i := 21) rfl))) (by decide) (t := (.object "com/example/firmline/firmline/Operation")) (t' := (.object "java/lang/Object")) (by decide) (by decide))))
  have F14_1 : Fld Z h12 a1 "com/example/firmline/firmline/ProcessReplay$Span" "response" "Ljava/lang/Object;" .null := (F9_1.same W12)
  have F14_2 : Fld Z h12 a1 "com/example/firmline/firmline/ProcessReplay$Span" "firstStep" "I" (.int (0 : Int32)) := (F9_2.other W12 (Or.inr (slot_ne (Or.inr (hw _ (List.mem_of_getElem? (i := 23) rfl))) (Or.inr (hw _ (List.mem_of_getElem? (i := 21) rfl))) (by decide) (t := .int) (t' := (.object "java/lang/Object")) (by decide) (by decide))))
  have F14_3 : Fld Z h12 a1 "com/example/firmline/firmline/ProcessReplay$Span" "lastStep" "I" (.int (0 : Int32)) := (F9_3.other W12 (Or.inr (slot_ne (Or.inr (hw _ (List.mem_of_getElem? (i := 25) rfl))) (Or.inr (hw _ (List.mem_of_getElem? (i := 21) rfl))) (by decide) (t := .int) (t' := (.object "java/lang/Object")) (by decide) (by decide))))
  have E14_0 : Exa Z h12 a1 "com/example/firmline/firmline/ProcessReplay$Span" := (E9_0.wr W12)
  have K14 : Keep h0 h12 [a1] := (K9.wr W12 (Or.inl (List.mem_of_getElem? (i := 0) rfl)))
  have Z14 : n0 ≤ h12.size := (Nat.le_trans Z9 (Nat.le_of_eq W12.size.symm))
  have pre16 : ∀ t, Steps p.tables e below (T12.setTop (mkF m 16 #[.val (.ref a1), .val (.ref p1), .val .null, .val (.int p3), .val (.int p4)] [(.int p3), (.ref a1)])) t → Steps p.tables e below (s₁.setTop (entryFrame m #[(.ref a1), (.ref p1), .null, (.int p3), (.int p4)] 5)) t := by
    intro t k
    refine pre13 t ?_
    refine XS.aloadN X12.here hx rfl (hb hby d1_14) rfl rfl ?_
    show Steps p.tables e below (T12.setTop (mkF m 15 #[.val (.ref a1), .val (.ref p1), .val .null, .val (.int p3), .val (.int p4)] [(.ref a1)])) _
    refine XS.iloadN X12.here hx rfl (hb hby d1_15) rfl ?_
    show Steps p.tables e below (T12.setTop (mkF m 16 #[.val (.ref a1), .val (.ref p1), .val .null, .val (.int p3), .val (.int p4)] [(.int p3), (.ref a1)])) _
    exact k
  obtain ⟨T17, h17, X17, e17, W17, st17⟩ := putF X12 hx hZ hown (host := "") (Or.inl (hw _ (List.mem_of_getElem? (i := 22) rfl))) Via.refl e12 F14_2 E14_0 (Or.inr ⟨(hw _ (List.mem_of_getElem? (i := 23) rfl)), rfl, hnm⟩) (hw _ (List.mem_of_getElem? (i := 5) rfl)) (ty := .int) (by decide) rfl rfl (g := (mkF m 16 #[.val (.ref a1), .val (.ref p1), .val .null, .val (.int p3), .val (.int p4)] [(.int p3), (.ref a1)])) rfl rfl (hb hby d1_16)
  have N17 := Fr.snoc X17 N12 ga1
  have pre18 : ∀ t, Steps p.tables e below (T17.setTop (mkF m 19 #[.val (.ref a1), .val (.ref p1), .val .null, .val (.int p3), .val (.int p4)] [])) t → Steps p.tables e below (s₁.setTop (entryFrame m #[(.ref a1), (.ref p1), .null, (.int p3), (.int p4)] 5)) t := fun t k => pre16 t (st17 t k)
  have F19_0 : Fld Z h17 a1 "com/example/firmline/firmline/ProcessReplay$Span" "operation" "Lcom/example/firmline/firmline/Operation;" (.ref p1) := (F14_0.other W17 (Or.inr (slot_ne (Or.inr (hw _ (List.mem_of_getElem? (i := 19) rfl))) (Or.inr (hw _ (List.mem_of_getElem? (i := 23) rfl))) (by decide) (t := (.object "com/example/firmline/firmline/Operation")) (t' := .int) (by decide) (by decide))))
  have F19_1 : Fld Z h17 a1 "com/example/firmline/firmline/ProcessReplay$Span" "response" "Ljava/lang/Object;" .null := (F14_1.other W17 (Or.inr (slot_ne (Or.inr (hw _ (List.mem_of_getElem? (i := 21) rfl))) (Or.inr (hw _ (List.mem_of_getElem? (i := 23) rfl))) (by decide) (t := (.object "java/lang/Object")) (t' := .int) (by decide) (by decide))))
  have F19_2 : Fld Z h17 a1 "com/example/firmline/firmline/ProcessReplay$Span" "firstStep" "I" (.int p3) := (F14_2.same W17)
  have F19_3 : Fld Z h17 a1 "com/example/firmline/firmline/ProcessReplay$Span" "lastStep" "I" (.int (0 : Int32)) := (F14_3.other W17 (Or.inr (slot_ne (Or.inr (hw _ (List.mem_of_getElem? (i := 25) rfl))) (Or.inr (hw _ (List.mem_of_getElem? (i := 23) rfl))) (by decide) (t := .int) (t' := .int) (by decide) (by decide))))
  have E19_0 : Exa Z h17 a1 "com/example/firmline/firmline/ProcessReplay$Span" := (E14_0.wr W17)
  have K19 : Keep h0 h17 [a1] := (K14.wr W17 (Or.inl (List.mem_of_getElem? (i := 0) rfl)))
  have Z19 : n0 ≤ h17.size := (Nat.le_trans Z14 (Nat.le_of_eq W17.size.symm))
  have pre21 : ∀ t, Steps p.tables e below (T17.setTop (mkF m 22 #[.val (.ref a1), .val (.ref p1), .val .null, .val (.int p3), .val (.int p4)] [(.int p4), (.ref a1)])) t → Steps p.tables e below (s₁.setTop (entryFrame m #[(.ref a1), (.ref p1), .null, (.int p3), (.int p4)] 5)) t := by
    intro t k
    refine pre18 t ?_
    refine XS.aloadN X17.here hx rfl (hb hby d1_19) rfl rfl ?_
    show Steps p.tables e below (T17.setTop (mkF m 20 #[.val (.ref a1), .val (.ref p1), .val .null, .val (.int p3), .val (.int p4)] [(.ref a1)])) _
    refine XS.iload X17.here hx rfl (hb hby d1_20) rfl ?_
    show Steps p.tables e below (T17.setTop (mkF m 22 #[.val (.ref a1), .val (.ref p1), .val .null, .val (.int p3), .val (.int p4)] [(.int p4), (.ref a1)])) _
    exact k
  obtain ⟨T22, h22, X22, e22, W22, st22⟩ := putF X17 hx hZ hown (host := "") (Or.inl (hw _ (List.mem_of_getElem? (i := 24) rfl))) Via.refl e17 F19_3 E19_0 (Or.inr ⟨(hw _ (List.mem_of_getElem? (i := 25) rfl)), rfl, hnm⟩) (hw _ (List.mem_of_getElem? (i := 5) rfl)) (ty := .int) (by decide) rfl rfl (g := (mkF m 22 #[.val (.ref a1), .val (.ref p1), .val .null, .val (.int p3), .val (.int p4)] [(.int p4), (.ref a1)])) rfl rfl (hb hby d1_22)
  have N22 := Fr.snoc X22 N17 ga1
  have pre23 : ∀ t, Steps p.tables e below (T22.setTop (mkF m 25 #[.val (.ref a1), .val (.ref p1), .val .null, .val (.int p3), .val (.int p4)] [])) t → Steps p.tables e below (s₁.setTop (entryFrame m #[(.ref a1), (.ref p1), .null, (.int p3), (.int p4)] 5)) t := fun t k => pre21 t (st22 t k)
  have F24_0 : Fld Z h22 a1 "com/example/firmline/firmline/ProcessReplay$Span" "operation" "Lcom/example/firmline/firmline/Operation;" (.ref p1) := (F19_0.other W22 (Or.inr (slot_ne (Or.inr (hw _ (List.mem_of_getElem? (i := 19) rfl))) (Or.inr (hw _ (List.mem_of_getElem? (i := 25) rfl))) (by decide) (t := (.object "com/example/firmline/firmline/Operation")) (t' := .int) (by decide) (by decide))))
  have F24_1 : Fld Z h22 a1 "com/example/firmline/firmline/ProcessReplay$Span" "response" "Ljava/lang/Object;" .null := (F19_1.other W22 (Or.inr (slot_ne (Or.inr (hw _ (List.mem_of_getElem? (i := 21) rfl))) (Or.inr (hw _ (List.mem_of_getElem? (i := 25) rfl))) (by decide) (t := (.object "java/lang/Object")) (t' := .int) (by decide) (by decide))))
  have F24_2 : Fld Z h22 a1 "com/example/firmline/firmline/ProcessReplay$Span" "firstStep" "I" (.int p3) := (F19_2.other W22 (Or.inr (slot_ne (Or.inr (hw _ (List.mem_of_getElem? (i := 23) rfl))) (Or.inr (hw _ (List.mem_of_getElem? (i := 25) rfl))) (by decide) (t := .int) (t' := .int) (by decide) (by decide))))
  have F24_3 : Fld Z h22 a1 "com/example/firmline/firmline/ProcessReplay$Span" "lastStep" "I" (.int p4) := (F19_3.same W22)
  have E24_0 : Exa Z h22 a1 "com/example/firmline/firmline/ProcessReplay$Span" := (E19_0.wr W22)
  have K24 : Keep h0 h22 [a1] := (K19.wr W22 (Or.inl (List.mem_of_getElem? (i := 0) rfl)))
  have Z24 : n0 ≤ h22.size := (Nat.le_trans Z19 (Nat.le_of_eq W22.size.symm))
  obtain ⟨fs, hr, hrun, hended, hW, hsame⟩ := X22.leave (v := none) (fun _ => rfl)
  refine ⟨_, _, pre23 _ ?_, hrun, hended, _, _, rfl, ?_, ⟨_, rfl⟩, hW, hsame.mono (by decide) (by decide)⟩
  · exact X22.returnOut hx Bd.returns (hb hby d1_25) hr
  · show Q1 Z a1 p1 p3 p4 h0 n0 _ T22.heap _
    rw [e22]
    exact ⟨rfl, N22, K24, F24_0, F24_1, F24_2, F24_3⟩
theorem pn_4 : plainName "com/example/firmline/firmline/ProcessReplay$Span" = true := by first | (simp [plainName, overriddenIn]; done) | decide +kernel
theorem d4_0 : decode prog_82_method_2_code 0 = .ok (.aload_n 0, 1) := by decide +kernel
theorem d4_1 : decode prog_82_method_2_code 1 = .ok (.getfield 21, 3) := by decide +kernel
theorem d4_4 : decode prog_82_method_2_code 4 = .ok (.aload_n 0, 1) := by decide +kernel
theorem d4_5 : decode prog_82_method_2_code 5 = .ok (.getfield 17, 3) := by decide +kernel
theorem d4_8 : decode prog_82_method_2_code 8 = .ok (.isub, 1) := by decide +kernel
theorem d4_9 : decode prog_82_method_2_code 9 = .ok (.iconst 1, 1) := by decide +kernel
theorem d4_10 : decode prog_82_method_2_code 10 = .ok (.iadd, 1) := by decide +kernel
theorem d4_11 : decode prog_82_method_2_code 11 = .ok (.ireturn, 1) := by decide +kernel
theorem ef_4 (m : MethodId) (a1 : Addr) : entryFrame m #[(.ref a1)] 1 = mkF m 0 #[.val (.ref a1)] [] := by first | (simp [entryFrame, mkF, argsToLocals, Value.category]; done) | rfl
def Q4 (Z : State) (a1 : Addr) (q1 : Int32) (q2 : Int32) (h0 : Heap) (n0 : Nat) (v : Option Value) (h : Heap) (L : List Loc) : Prop := v = some (.int ((q2 - q1) + 1)) ∧ Fr n0 L ∧ h = h0
set_option maxRecDepth 65536 in
set_option maxHeartbeats 40000000 in
theorem rm4 (l : Launch) (Z : State) (a0 : Array Value) (hw : ∀ d ∈ tables_1, d.before a0 Z = true) (ws : List Jvm.Cond) (a1 : Addr) (q1 : Int32) (q2 : Int32) (h0 : Heap) (n0 : Nat) (Z0 : n0 ≤ h0.size) (F1 : Fld Z h0 a1 "com/example/firmline/firmline/ProcessReplay$Span" "firstStep" "I" (.int q1)) (F2 : Fld Z h0 a1 "com/example/firmline/firmline/ProcessReplay$Span" "lastStep" "I" (.int q2)) :
    MetFree l (⟨"com/example/firmline/firmline/ProcessReplay$Span", "steps", "()I"⟩ : MethodName) (head1 (Jvm.Cond.code (⟨"com/example/firmline/firmline/ProcessReplay$Span", "steps", "()I"⟩ : MethodName) prog_82_method_2_code 1 (some .int) :: ws) ({ frames := 0, cells := 0, slots := 0, locals := 0 } : Room)) (fun a U => a = #[(.ref a1)] ∧ Z.Warmed39 U.vm ∧ U.heap = h0) (fun _ _ _ _ _ => True) (fun _ U o U' => ∃ v L, o = .returned v ∧ Q4 Z a1 q1 q2 h0 n0 v U'.heap L ∧ FrameEnd U o U' L ({ frames := 0, cells := 0, slots := 0, locals := 0 } : Room).cells ({ frames := 0, cells := 0, slots := 0, locals := 0 } : Room).slots) := by
  refine MetFree.of_bodySF (plainFor_of_name pn_4) hisR ?_
  intro p e s m args below meth c s₁ Bd hml0 hP hK
  obtain ⟨rfl, hZ, hh⟩ := hP
  have hx := Bd.exec
  have hby := Bd.bytes
  have hml : c.maxLocals = 1 := hml0
  have hown : s.vm.findClass "com/example/firmline/firmline/ProcessReplay$Span" = some m.cls := findClass_of_methodNamed Bd.named
  have hnm := (name_of_methodNamed Bd.named Bd.method).1
  have X0 : Stand p l e ({ frames := 0, cells := 0, slots := 0, locals := 0 } : Room) s m #[(.ref a1)] below meth c s₁ [] 0 0 := Stand.of_body Bd
  have e0 : s₁.heap = h0 := by rw [← hh, Bd.state]; rfl
  have N0 := Fr.nil n0
  have pre0 : ∀ t, Steps p.tables e below (s₁.setTop (mkF m 0 #[.val (.ref a1)] [])) t → Steps p.tables e below (s₁.setTop (entryFrame m #[(.ref a1)] 1)) t := fun t k => castTop (ef_4 m a1) k
  have pre1 : ∀ t, Steps p.tables e below (s₁.setTop (mkF m 1 #[.val (.ref a1)] [(.ref a1)])) t → Steps p.tables e below (s₁.setTop (entryFrame m #[(.ref a1)] 1)) t := by
    intro t k
    refine pre0 t ?_
    refine XS.aloadN X0.here hx rfl (hb hby d4_0) rfl rfl ?_
    show Steps p.tables e below (s₁.setTop (mkF m 1 #[.val (.ref a1)] [(.ref a1)])) _
    exact k
  obtain ⟨T2, X2, e2, st2⟩ := getF X0 hx hZ hown (host := "") (Or.inl (hw _ (List.mem_of_getElem? (i := 24) rfl))) Via.refl e0 F2 (g := (mkF m 1 #[.val (.ref a1)] [(.ref a1)])) rfl rfl (hb hby d4_1)
  have pre3 : ∀ t, Steps p.tables e below (T2.setTop (mkF m 4 #[.val (.ref a1)] [(.int q2)])) t → Steps p.tables e below (s₁.setTop (entryFrame m #[(.ref a1)] 1)) t := fun t k => pre1 t (st2 t k)
  have pre4 : ∀ t, Steps p.tables e below (T2.setTop (mkF m 5 #[.val (.ref a1)] [(.ref a1), (.int q2)])) t → Steps p.tables e below (s₁.setTop (entryFrame m #[(.ref a1)] 1)) t := by
    intro t k
    refine pre3 t ?_
    refine XS.aloadN X2.here hx rfl (hb hby d4_4) rfl rfl ?_
    show Steps p.tables e below (T2.setTop (mkF m 5 #[.val (.ref a1)] [(.ref a1), (.int q2)])) _
    exact k
  obtain ⟨T5, X5, e5, st5⟩ := getF X2 hx hZ hown (host := "") (Or.inl (hw _ (List.mem_of_getElem? (i := 22) rfl))) Via.refl e2 F1 (g := (mkF m 5 #[.val (.ref a1)] [(.ref a1), (.int q2)])) rfl rfl (hb hby d4_5)
  have pre6 : ∀ t, Steps p.tables e below (T5.setTop (mkF m 8 #[.val (.ref a1)] [(.int q1), (.int q2)])) t → Steps p.tables e below (s₁.setTop (entryFrame m #[(.ref a1)] 1)) t := fun t k => pre4 t (st5 t k)
  have pre7 : ∀ t, Steps p.tables e below (T5.setTop (mkF m 11 #[.val (.ref a1)] [(.int ((q2 - q1) + (1 : Int32)))])) t → Steps p.tables e below (s₁.setTop (entryFrame m #[(.ref a1)] 1)) t := by
    intro t k
    refine pre6 t ?_
    refine XS.isub X5.here hx rfl (hb hby d4_8) rfl ?_
    show Steps p.tables e below (T5.setTop (mkF m 9 #[.val (.ref a1)] [(.int (q2 - q1))])) _
    refine XS.iconst X5.here hx rfl (hb hby d4_9) ?_
    show Steps p.tables e below (T5.setTop (mkF m 10 #[.val (.ref a1)] [(.int (1 : Int32)), (.int (q2 - q1))])) _
    refine XS.iadd X5.here hx rfl (hb hby d4_10) rfl ?_
    show Steps p.tables e below (T5.setTop (mkF m 11 #[.val (.ref a1)] [(.int ((q2 - q1) + (1 : Int32)))])) _
    exact k
  obtain ⟨fs, hr, hrun, hended, hW, hsame⟩ := X5.leave (v := some (.int ((q2 - q1) + (1 : Int32)))) (fun h => by rw [Bd.returns] at h; cases h)
  refine ⟨_, _, pre7 _ ?_, hrun, hended, _, _, rfl, ?_, ⟨_, rfl⟩, hW, hsame.mono (by decide) (by decide)⟩
  · exact retOut X5 hx Bd.returns rfl (Or.inl ⟨rfl, by simp, _, rfl⟩) (hb hby d4_11) hr
  · show Q4 Z a1 q1 q2 h0 n0 _ T5.heap _
    rw [e5]
    exact ⟨rfl, N0, rfl⟩
theorem pd_ini : parseMethodDescriptor "(Lcom/example/firmline/firmline/Operation;Ljava/lang/Object;II)V" = some ⟨[(.object "com/example/firmline/firmline/Operation"), (.object "java/lang/Object"), .int, .int], none⟩ := by decide +kernel
theorem pd_st : parseMethodDescriptor "()I" = some ⟨[], some .int⟩ := by decide +kernel
theorem pn_law : plainName "com/example/firmline/firmline/SpanStepsPinLaw" = true := by first | (simp [plainName, overriddenIn]; done) | decide +kernel
theorem ef_law (m : MethodId) (x0 : Int32) (y0 : Int32) (z0 : Int32) : entryFrame m #[(.int x0), (.int y0), (.int z0)] maxLocals = mkF m 0 #[.val (.int x0), .val (.int y0), .val (.int z0), .unset, .unset, .unset, .unset, .unset, .unset, .unset, .unset, .unset, .unset, .unset, .unset] [] := by first | (simp [entryFrame, mkF, argsToLocals, Value.category, maxLocals]; done) | rfl
def Qlaw (Z : State) (x0 : Int32) (y0 : Int32) (z0 : Int32) (op : Addr) (h0 : Heap) (n0 : Nat) (v : Option Value) (h : Heap) (L : List Loc) : Prop := v = some (.int (1 : Int32)) ∧ Fr n0 L
set_option maxRecDepth 65536 in
set_option maxHeartbeats 40000000 in
theorem rmlaw (l : Launch) (Z : State) (a0 : Array Value) (hw : ∀ d ∈ tables_1, d.before a0 Z = true) (ws : List Jvm.Cond) (x0 : Int32) (y0 : Int32) (z0 : Int32) (op : Addr) (h0 : Heap) (n0 : Nat) (Z0 : n0 ≤ h0.size) (SF : Sta Z h0 "com/example/firmline/firmline/Operation" "FLIP" "Lcom/example/firmline/firmline/Operation;" (.ref op)) :
    MetFree l x (head1 (Jvm.Cond.code x code maxLocals ret :: ws) room_1) (fun a U => a = #[(.int x0), (.int y0), (.int z0)] ∧ Z.Warmed39 U.vm ∧ U.heap = h0) (fun _ _ _ _ _ => True) (fun _ U o U' => ∃ v L, o = .returned v ∧ Qlaw Z x0 y0 z0 op h0 n0 v U'.heap L ∧ FrameEnd U o U' L room_1.cells room_1.slots) := by
  refine MetFree.of_bodySF (plainFor_of_name pn_law) hisR ?_
  intro p e s m args below meth c s₁ Bd hml0 hP hK
  obtain ⟨rfl, hZ, hh⟩ := hP
  have hx := Bd.exec
  have hby := Bd.bytes
  have hml : c.maxLocals = 15 := hml0
  have hown : s.vm.findClass "com/example/firmline/firmline/SpanStepsPinLaw" = some m.cls := findClass_of_methodNamed Bd.named
  have hnm := (name_of_methodNamed Bd.named Bd.method).1
  have X0 : Stand p l e room_1 s m #[(.int x0), (.int y0), (.int z0)] below meth c s₁ [] 0 0 := Stand.of_body Bd
  have e0 : s₁.heap = h0 := by rw [← hh, Bd.state]; rfl
  have N0 := Fr.nil n0
  have pre0 : ∀ t, Steps p.tables e below (s₁.setTop (mkF m 0 #[.val (.int x0), .val (.int y0), .val (.int z0), .unset, .unset, .unset, .unset, .unset, .unset, .unset, .unset, .unset, .unset, .unset, .unset] [])) t → Steps p.tables e below (s₁.setTop (entryFrame m #[(.int x0), (.int y0), (.int z0)] maxLocals)) t := fun t k => castTop (ef_law m x0 y0 z0) k
  have pre1 : ∀ t, Steps p.tables e below (s₁.setTop (mkF m 5 #[.val (.int x0), .val (.int y0), .val (.int z0), .val (.int (x0 &&& (536870911 : Int32))), .unset, .unset, .unset, .unset, .unset, .unset, .unset, .unset, .unset, .unset, .unset] [])) t → Steps p.tables e below (s₁.setTop (entryFrame m #[(.int x0), (.int y0), (.int z0)] maxLocals)) t := by
    intro t k
    refine pre0 t ?_
    refine XS.iloadN X0.here hx rfl (hb hby at_0) rfl ?_
    show Steps p.tables e below (s₁.setTop (mkF m 1 #[.val (.int x0), .val (.int y0), .val (.int z0), .unset, .unset, .unset, .unset, .unset, .unset, .unset, .unset, .unset, .unset, .unset, .unset] [(.int x0)])) _
    refine Stand.ldcI X0 hx hown (mvT hZ (hw _ (List.mem_of_getElem? (i := 0) rfl))) rfl (hb hby at_1) ?_
    show Steps p.tables e below (s₁.setTop (mkF m 3 #[.val (.int x0), .val (.int y0), .val (.int z0), .unset, .unset, .unset, .unset, .unset, .unset, .unset, .unset, .unset, .unset, .unset, .unset] [(.int (536870911 : Int32)), (.int x0)])) _
    refine XS.iand X0.here hx rfl (hb hby at_3) rfl ?_
    show Steps p.tables e below (s₁.setTop (mkF m 4 #[.val (.int x0), .val (.int y0), .val (.int z0), .unset, .unset, .unset, .unset, .unset, .unset, .unset, .unset, .unset, .unset, .unset, .unset] [(.int (x0 &&& (536870911 : Int32)))])) _
    refine XS.istoreN X0.here hx rfl (hb hby at_4) rfl (l' := #[.val (.int x0), .val (.int y0), .val (.int z0), .val (.int (x0 &&& (536870911 : Int32))), .unset, .unset, .unset, .unset, .unset, .unset, .unset, .unset, .unset, .unset, .unset]) rfl ?_
    show Steps p.tables e below (s₁.setTop (mkF m 5 #[.val (.int x0), .val (.int y0), .val (.int z0), .val (.int (x0 &&& (536870911 : Int32))), .unset, .unset, .unset, .unset, .unset, .unset, .unset, .unset, .unset, .unset, .unset] [])) _
    exact k
  obtain ⟨ia, hn_ia, pre2⟩ : ∃ ia : Int32, ia = (x0 &&& (536870911 : Int32)) ∧ ∀ t, Steps p.tables e below (s₁.setTop (mkF m 5 #[.val (.int x0), .val (.int y0), .val (.int z0), .val (.int ia), .unset, .unset, .unset, .unset, .unset, .unset, .unset, .unset, .unset, .unset, .unset] [])) t → Steps p.tables e below (s₁.setTop (entryFrame m #[(.int x0), (.int y0), (.int z0)] maxLocals)) t := ⟨_, rfl, pre1⟩
  have pre3 : ∀ t, Steps p.tables e below (s₁.setTop (mkF m 13 #[.val (.int x0), .val (.int y0), .val (.int z0), .val (.int ia), .val (.int (ia + (y0 &&& (536870911 : Int32)))), .unset, .unset, .unset, .unset, .unset, .unset, .unset, .unset, .unset, .unset] [])) t → Steps p.tables e below (s₁.setTop (entryFrame m #[(.int x0), (.int y0), (.int z0)] maxLocals)) t := by
    intro t k
    refine pre2 t ?_
    refine XS.iloadN X0.here hx rfl (hb hby at_5) rfl ?_
    show Steps p.tables e below (s₁.setTop (mkF m 6 #[.val (.int x0), .val (.int y0), .val (.int z0), .val (.int ia), .unset, .unset, .unset, .unset, .unset, .unset, .unset, .unset, .unset, .unset, .unset] [(.int ia)])) _
    refine XS.iloadN X0.here hx rfl (hb hby at_6) rfl ?_
    show Steps p.tables e below (s₁.setTop (mkF m 7 #[.val (.int x0), .val (.int y0), .val (.int z0), .val (.int ia), .unset, .unset, .unset, .unset, .unset, .unset, .unset, .unset, .unset, .unset, .unset] [(.int y0), (.int ia)])) _
    refine Stand.ldcI X0 hx hown (mvT hZ (hw _ (List.mem_of_getElem? (i := 0) rfl))) rfl (hb hby at_7) ?_
    show Steps p.tables e below (s₁.setTop (mkF m 9 #[.val (.int x0), .val (.int y0), .val (.int z0), .val (.int ia), .unset, .unset, .unset, .unset, .unset, .unset, .unset, .unset, .unset, .unset, .unset] [(.int (536870911 : Int32)), (.int y0), (.int ia)])) _
    refine XS.iand X0.here hx rfl (hb hby at_9) rfl ?_
    show Steps p.tables e below (s₁.setTop (mkF m 10 #[.val (.int x0), .val (.int y0), .val (.int z0), .val (.int ia), .unset, .unset, .unset, .unset, .unset, .unset, .unset, .unset, .unset, .unset, .unset] [(.int (y0 &&& (536870911 : Int32))), (.int ia)])) _
    refine XS.iadd X0.here hx rfl (hb hby at_10) rfl ?_
    show Steps p.tables e below (s₁.setTop (mkF m 11 #[.val (.int x0), .val (.int y0), .val (.int z0), .val (.int ia), .unset, .unset, .unset, .unset, .unset, .unset, .unset, .unset, .unset, .unset, .unset] [(.int (ia + (y0 &&& (536870911 : Int32))))])) _
    refine XS.istore X0.here hx rfl (hb hby at_11) rfl (l' := #[.val (.int x0), .val (.int y0), .val (.int z0), .val (.int ia), .val (.int (ia + (y0 &&& (536870911 : Int32)))), .unset, .unset, .unset, .unset, .unset, .unset, .unset, .unset, .unset, .unset]) rfl ?_
    show Steps p.tables e below (s₁.setTop (mkF m 13 #[.val (.int x0), .val (.int y0), .val (.int z0), .val (.int ia), .val (.int (ia + (y0 &&& (536870911 : Int32)))), .unset, .unset, .unset, .unset, .unset, .unset, .unset, .unset, .unset, .unset] [])) _
    exact k
  obtain ⟨ib, hn_ib, pre4⟩ : ∃ ib : Int32, ib = (ia + (y0 &&& (536870911 : Int32))) ∧ ∀ t, Steps p.tables e below (s₁.setTop (mkF m 13 #[.val (.int x0), .val (.int y0), .val (.int z0), .val (.int ia), .val (.int ib), .unset, .unset, .unset, .unset, .unset, .unset, .unset, .unset, .unset, .unset] [])) t → Steps p.tables e below (s₁.setTop (entryFrame m #[(.int x0), (.int y0), (.int z0)] maxLocals)) t := ⟨_, rfl, pre3⟩
  have pre5 : ∀ t, Steps p.tables e below (s₁.setTop (mkF m 24 #[.val (.int x0), .val (.int y0), .val (.int z0), .val (.int ia), .val (.int ib), .val (.int ((ib + (1 : Int32)) + (z0 &&& (536870911 : Int32)))), .unset, .unset, .unset, .unset, .unset, .unset, .unset, .unset, .unset] [])) t → Steps p.tables e below (s₁.setTop (entryFrame m #[(.int x0), (.int y0), (.int z0)] maxLocals)) t := by
    intro t k
    refine pre4 t ?_
    refine XS.iload X0.here hx rfl (hb hby at_13) rfl ?_
    show Steps p.tables e below (s₁.setTop (mkF m 15 #[.val (.int x0), .val (.int y0), .val (.int z0), .val (.int ia), .val (.int ib), .unset, .unset, .unset, .unset, .unset, .unset, .unset, .unset, .unset, .unset] [(.int ib)])) _
    refine XS.iconst X0.here hx rfl (hb hby at_15) ?_
    show Steps p.tables e below (s₁.setTop (mkF m 16 #[.val (.int x0), .val (.int y0), .val (.int z0), .val (.int ia), .val (.int ib), .unset, .unset, .unset, .unset, .unset, .unset, .unset, .unset, .unset, .unset] [(.int (1 : Int32)), (.int ib)])) _
    refine XS.iadd X0.here hx rfl (hb hby at_16) rfl ?_
    show Steps p.tables e below (s₁.setTop (mkF m 17 #[.val (.int x0), .val (.int y0), .val (.int z0), .val (.int ia), .val (.int ib), .unset, .unset, .unset, .unset, .unset, .unset, .unset, .unset, .unset, .unset] [(.int (ib + (1 : Int32)))])) _
    refine XS.iloadN X0.here hx rfl (hb hby at_17) rfl ?_
    show Steps p.tables e below (s₁.setTop (mkF m 18 #[.val (.int x0), .val (.int y0), .val (.int z0), .val (.int ia), .val (.int ib), .unset, .unset, .unset, .unset, .unset, .unset, .unset, .unset, .unset, .unset] [(.int z0), (.int (ib + (1 : Int32)))])) _
    refine Stand.ldcI X0 hx hown (mvT hZ (hw _ (List.mem_of_getElem? (i := 0) rfl))) rfl (hb hby at_18) ?_
    show Steps p.tables e below (s₁.setTop (mkF m 20 #[.val (.int x0), .val (.int y0), .val (.int z0), .val (.int ia), .val (.int ib), .unset, .unset, .unset, .unset, .unset, .unset, .unset, .unset, .unset, .unset] [(.int (536870911 : Int32)), (.int z0), (.int (ib + (1 : Int32)))])) _
    refine XS.iand X0.here hx rfl (hb hby at_20) rfl ?_
    show Steps p.tables e below (s₁.setTop (mkF m 21 #[.val (.int x0), .val (.int y0), .val (.int z0), .val (.int ia), .val (.int ib), .unset, .unset, .unset, .unset, .unset, .unset, .unset, .unset, .unset, .unset] [(.int (z0 &&& (536870911 : Int32))), (.int (ib + (1 : Int32)))])) _
    refine XS.iadd X0.here hx rfl (hb hby at_21) rfl ?_
    show Steps p.tables e below (s₁.setTop (mkF m 22 #[.val (.int x0), .val (.int y0), .val (.int z0), .val (.int ia), .val (.int ib), .unset, .unset, .unset, .unset, .unset, .unset, .unset, .unset, .unset, .unset] [(.int ((ib + (1 : Int32)) + (z0 &&& (536870911 : Int32))))])) _
    refine XS.istore X0.here hx rfl (hb hby at_22) rfl (l' := #[.val (.int x0), .val (.int y0), .val (.int z0), .val (.int ia), .val (.int ib), .val (.int ((ib + (1 : Int32)) + (z0 &&& (536870911 : Int32)))), .unset, .unset, .unset, .unset, .unset, .unset, .unset, .unset, .unset]) rfl ?_
    show Steps p.tables e below (s₁.setTop (mkF m 24 #[.val (.int x0), .val (.int y0), .val (.int z0), .val (.int ia), .val (.int ib), .val (.int ((ib + (1 : Int32)) + (z0 &&& (536870911 : Int32)))), .unset, .unset, .unset, .unset, .unset, .unset, .unset, .unset, .unset] [])) _
    exact k
  obtain ⟨ic, hn_ic, pre6⟩ : ∃ ic : Int32, ic = ((ib + (1 : Int32)) + (z0 &&& (536870911 : Int32))) ∧ ∀ t, Steps p.tables e below (s₁.setTop (mkF m 24 #[.val (.int x0), .val (.int y0), .val (.int z0), .val (.int ia), .val (.int ib), .val (.int ic), .unset, .unset, .unset, .unset, .unset, .unset, .unset, .unset, .unset] [])) t → Steps p.tables e below (s₁.setTop (entryFrame m #[(.int x0), (.int y0), (.int z0)] maxLocals)) t := ⟨_, rfl, pre5⟩
  have hz := own_law hn_ia hn_ib hn_ic
  obtain ⟨T8, X8, e8, st8⟩ := getS (host := "") X0 hx hZ hown (hw _ (List.mem_of_getElem? (i := 1) rfl)) Via.refl e0 SF (g := (mkF m 24 #[.val (.int x0), .val (.int y0), .val (.int z0), .val (.int ia), .val (.int ib), .val (.int ic), .unset, .unset, .unset, .unset, .unset, .unset, .unset, .unset, .unset] [])) rfl (hb hby at_24)
  have pre9 : ∀ t, Steps p.tables e below (T8.setTop (mkF m 27 #[.val (.int x0), .val (.int y0), .val (.int z0), .val (.int ia), .val (.int ib), .val (.int ic), .unset, .unset, .unset, .unset, .unset, .unset, .unset, .unset, .unset] [(.ref op)])) t → Steps p.tables e below (s₁.setTop (entryFrame m #[(.int x0), (.int y0), (.int z0)] maxLocals)) t := fun t k => pre6 t (st8 t k)
  have pre11 : ∀ t, Steps p.tables e below (T8.setTop (mkF m 29 #[.val (.int x0), .val (.int y0), .val (.int z0), .val (.int ia), .val (.int ib), .val (.int ic), .val (.ref op), .unset, .unset, .unset, .unset, .unset, .unset, .unset, .unset] [])) t → Steps p.tables e below (s₁.setTop (entryFrame m #[(.int x0), (.int y0), (.int z0)] maxLocals)) t := by
    intro t k
    refine pre9 t ?_
    refine XS.astore X8.here hx rfl (hb hby at_27) rfl rfl (l' := #[.val (.int x0), .val (.int y0), .val (.int z0), .val (.int ia), .val (.int ib), .val (.int ic), .val (.ref op), .unset, .unset, .unset, .unset, .unset, .unset, .unset, .unset]) rfl ?_
    show Steps p.tables e below (T8.setTop (mkF m 29 #[.val (.int x0), .val (.int y0), .val (.int z0), .val (.int ia), .val (.int ib), .val (.int ic), .val (.ref op), .unset, .unset, .unset, .unset, .unset, .unset, .unset, .unset] [])) _
    exact k
  obtain ⟨T12, h12, X12, e12, E12, A12, D12, -, st12⟩ := newO X8 hx hZ hown (hw _ (List.mem_of_getElem? (i := 4) rfl)) (hw _ (List.mem_of_getElem? (i := 5) rfl)) (hw _ (List.mem_of_getElem? (i := 6) rfl)) e8 (g := (mkF m 29 #[.val (.int x0), .val (.int y0), .val (.int z0), .val (.int ia), .val (.int ib), .val (.int ic), .val (.ref op), .unset, .unset, .unset, .unset, .unset, .unset, .unset, .unset] [])) rfl (hb hby at_29) (by decide) (by decide)
  obtain ⟨b1, gz12⟩ : ∃ z, z = h0.size := ⟨_, rfl⟩
  rw [← gz12] at A12 D12 st12
  have g_b1 : n0 ≤ b1 := Nat.le_trans Z0 (Nat.le_of_eq gz12.symm)
  have F_operation_b1 : Fld Z h12 b1 "com/example/firmline/firmline/ProcessReplay$Span" "operation" "Lcom/example/firmline/firmline/Operation;" .null := D12 (Or.inr (hw _ (List.mem_of_getElem? (i := 19) rfl))) (ty := (.object "com/example/firmline/firmline/Operation")) (by decide)
  have F_response_b1 : Fld Z h12 b1 "com/example/firmline/firmline/ProcessReplay$Span" "response" "Ljava/lang/Object;" .null := D12 (Or.inr (hw _ (List.mem_of_getElem? (i := 21) rfl))) (ty := (.object "java/lang/Object")) (by decide)
  have F_firstStep_b1 : Fld Z h12 b1 "com/example/firmline/firmline/ProcessReplay$Span" "firstStep" "I" (.int (0 : Int32)) := D12 (Or.inr (hw _ (List.mem_of_getElem? (i := 23) rfl))) (ty := .int) (by decide)
  have F_lastStep_b1 : Fld Z h12 b1 "com/example/firmline/firmline/ProcessReplay$Span" "lastStep" "I" (.int (0 : Int32)) := D12 (Or.inr (hw _ (List.mem_of_getElem? (i := 25) rfl))) (ty := .int) (by decide)
  have pre13 : ∀ t, Steps p.tables e below (T12.setTop (mkF m 32 #[.val (.int x0), .val (.int y0), .val (.int z0), .val (.int ia), .val (.int ib), .val (.int ic), .val (.ref op), .unset, .unset, .unset, .unset, .unset, .unset, .unset, .unset] [(.ref b1)])) t → Steps p.tables e below (s₁.setTop (entryFrame m #[(.int x0), (.int y0), (.int z0)] maxLocals)) t := fun t k => pre11 t (st12 t k)
  have Z14 : n0 ≤ h12.size := (Nat.le_trans Z0 E12.1)
  have pre16 : ∀ t, Steps p.tables e below (T12.setTop (mkF m 38 #[.val (.int x0), .val (.int y0), .val (.int z0), .val (.int ia), .val (.int ib), .val (.int ic), .val (.ref op), .unset, .unset, .unset, .unset, .unset, .unset, .unset, .unset] [(.int ia), (.int ia), .null, (.ref op), (.ref b1), (.ref b1)])) t → Steps p.tables e below (s₁.setTop (entryFrame m #[(.int x0), (.int y0), (.int z0)] maxLocals)) t := by
    intro t k
    refine pre13 t ?_
    refine XS.dup X12.here hx rfl (hb hby at_32) rfl rfl ?_
    show Steps p.tables e below (T12.setTop (mkF m 33 #[.val (.int x0), .val (.int y0), .val (.int z0), .val (.int ia), .val (.int ib), .val (.int ic), .val (.ref op), .unset, .unset, .unset, .unset, .unset, .unset, .unset, .unset] [(.ref b1), (.ref b1)])) _
    refine XS.aload X12.here hx rfl (hb hby at_33) rfl rfl ?_
    show Steps p.tables e below (T12.setTop (mkF m 35 #[.val (.int x0), .val (.int y0), .val (.int z0), .val (.int ia), .val (.int ib), .val (.int ic), .val (.ref op), .unset, .unset, .unset, .unset, .unset, .unset, .unset, .unset] [(.ref op), (.ref b1), (.ref b1)])) _
    refine XS.aconstNull X12.here hx rfl (hb hby at_35) ?_
    show Steps p.tables e below (T12.setTop (mkF m 36 #[.val (.int x0), .val (.int y0), .val (.int z0), .val (.int ia), .val (.int ib), .val (.int ic), .val (.ref op), .unset, .unset, .unset, .unset, .unset, .unset, .unset, .unset] [.null, (.ref op), (.ref b1), (.ref b1)])) _
    refine XS.iloadN X12.here hx rfl (hb hby at_36) rfl ?_
    show Steps p.tables e below (T12.setTop (mkF m 37 #[.val (.int x0), .val (.int y0), .val (.int z0), .val (.int ia), .val (.int ib), .val (.int ic), .val (.ref op), .unset, .unset, .unset, .unset, .unset, .unset, .unset, .unset] [(.int ia), .null, (.ref op), (.ref b1), (.ref b1)])) _
    refine XS.iloadN X12.here hx rfl (hb hby at_37) rfl ?_
    show Steps p.tables e below (T12.setTop (mkF m 38 #[.val (.int x0), .val (.int y0), .val (.int z0), .val (.int ia), .val (.int ib), .val (.int ic), .val (.ref op), .unset, .unset, .unset, .unset, .unset, .unset, .unset, .unset] [(.int ia), (.int ia), .null, (.ref op), (.ref b1), (.ref b1)])) _
    exact k
  obtain ⟨_, _, ⟨T18, L18, k18, n18⟩, -, X18, ⟨Lc18, hQ18, l18, y18, z18⟩, st18⟩ := X12.specialBack hx (y := (⟨"com/example/firmline/firmline/ProcessReplay$Span", "<init>", "(Lcom/example/firmline/firmline/Operation;Ljava/lang/Object;II)V"⟩ : MethodName)) rfl hown (mvT hZ (hw _ (List.mem_of_getElem? (i := 7) rfl))) (mvT hZ (hw _ (List.mem_of_getElem? (i := 8) rfl))) (mvT hZ (hw _ (List.mem_of_getElem? (i := 9) rfl))) (by decide) (backOf (W := 1) (rm1 l Z a0 hw [] b1 op ia ia h12 n0 Z14 A12 g_b1  F_operation_b1 F_response_b1 F_firstStep_b1 F_lastStep_b1) hZ (hw _ (List.mem_of_getElem? (i := 9) rfl)) (hw _ (List.mem_of_getElem? (i := 6) rfl)) (by decide) (by decide)) (g := (mkF m 38 #[.val (.int x0), .val (.int y0), .val (.int z0), .val (.int ia), .val (.int ib), .val (.int ic), .val (.ref op), .unset, .unset, .unset, .unset, .unset, .unset, .unset, .unset] [(.int ia), (.int ia), .null, (.ref op), (.ref b1), (.ref b1)])) rfl (by rw [hml]; rfl) (Steps.refl _) (a := b1) (argsL := [(.ref op), .null, (.int ia), (.int ia)]) (rest := [(.ref b1)]) (lenOf pd_ini rfl) rfl (by show 2 * 0 + _ ≤ _; exact Nat.le_of_eq rfl) (hb hby at_38) (fun _ _ => ⟨rfl, e12, (by decide : 1 + 0 ≤ _), (by decide : 4 + 0 ≤ _)⟩)
  dsimp only [Pt.U, Pt.locs, Pt.cells, Pt.slots] at X18 l18 y18 z18 st18 hQ18
  subst l18 y18 z18
  obtain ⟨rfl, Nq18, Kq18, Fx0_18, Fx1_18, Fx2_18, Fx3_18⟩ := hQ18
  have N18 := Fr.app N0 Nq18
  have pre19 : ∀ t, Steps p.tables e below (T18.setTop (mkF m 41 #[.val (.int x0), .val (.int y0), .val (.int z0), .val (.int ia), .val (.int ib), .val (.int ic), .val (.ref op), .unset, .unset, .unset, .unset, .unset, .unset, .unset, .unset] [(.ref b1)])) t → Steps p.tables e below (s₁.setTop (entryFrame m #[(.int x0), (.int y0), (.int z0)] maxLocals)) t := fun t k => pre16 t (st18.trans k)
  obtain ⟨h18, e18⟩ : ∃ z, T18.heap = z := ⟨_, rfl⟩
  rw [e18] at Kq18 Fx0_18 Fx1_18 Fx2_18 Fx3_18
  have E20_0 : Exa Z h18 b1 "com/example/firmline/firmline/ProcessReplay$Span" := (A12.keep Kq18)
  have Z20 : n0 ≤ h18.size := (Nat.le_trans Z14 Kq18.1)
  have pre22 : ∀ t, Steps p.tables e below (T18.setTop (mkF m 43 #[.val (.int x0), .val (.int y0), .val (.int z0), .val (.int ia), .val (.int ib), .val (.int ic), .val (.ref op), .val (.ref b1), .unset, .unset, .unset, .unset, .unset, .unset, .unset] [])) t → Steps p.tables e below (s₁.setTop (entryFrame m #[(.int x0), (.int y0), (.int z0)] maxLocals)) t := by
    intro t k
    refine pre19 t ?_
    refine XS.astore X18.here hx rfl (hb hby at_41) rfl rfl (l' := #[.val (.int x0), .val (.int y0), .val (.int z0), .val (.int ia), .val (.int ib), .val (.int ic), .val (.ref op), .val (.ref b1), .unset, .unset, .unset, .unset, .unset, .unset, .unset]) rfl ?_
    show Steps p.tables e below (T18.setTop (mkF m 43 #[.val (.int x0), .val (.int y0), .val (.int z0), .val (.int ia), .val (.int ib), .val (.int ic), .val (.ref op), .val (.ref b1), .unset, .unset, .unset, .unset, .unset, .unset, .unset] [])) _
    exact k
  obtain ⟨T23, h23, X23, e23, E23, A23, D23, -, st23⟩ := newO X18 hx hZ hown (hw _ (List.mem_of_getElem? (i := 4) rfl)) (hw _ (List.mem_of_getElem? (i := 5) rfl)) (hw _ (List.mem_of_getElem? (i := 6) rfl)) e18 (g := (mkF m 43 #[.val (.int x0), .val (.int y0), .val (.int z0), .val (.int ia), .val (.int ib), .val (.int ic), .val (.ref op), .val (.ref b1), .unset, .unset, .unset, .unset, .unset, .unset, .unset] [])) rfl (hb hby at_43) (by decide) (by decide)
  obtain ⟨b2, gz23⟩ : ∃ z, z = h18.size := ⟨_, rfl⟩
  rw [← gz23] at A23 D23 st23
  have g_b2 : n0 ≤ b2 := Nat.le_trans Z20 (Nat.le_of_eq gz23.symm)
  have ne_b1_b2 : b1 ≠ b2 := by rw [gz23]; exact Nat.ne_of_lt Fx0_18.lt
  have F_operation_b2 : Fld Z h23 b2 "com/example/firmline/firmline/ProcessReplay$Span" "operation" "Lcom/example/firmline/firmline/Operation;" .null := D23 (Or.inr (hw _ (List.mem_of_getElem? (i := 19) rfl))) (ty := (.object "com/example/firmline/firmline/Operation")) (by decide)
  have F_response_b2 : Fld Z h23 b2 "com/example/firmline/firmline/ProcessReplay$Span" "response" "Ljava/lang/Object;" .null := D23 (Or.inr (hw _ (List.mem_of_getElem? (i := 21) rfl))) (ty := (.object "java/lang/Object")) (by decide)
  have F_firstStep_b2 : Fld Z h23 b2 "com/example/firmline/firmline/ProcessReplay$Span" "firstStep" "I" (.int (0 : Int32)) := D23 (Or.inr (hw _ (List.mem_of_getElem? (i := 23) rfl))) (ty := .int) (by decide)
  have F_lastStep_b2 : Fld Z h23 b2 "com/example/firmline/firmline/ProcessReplay$Span" "lastStep" "I" (.int (0 : Int32)) := D23 (Or.inr (hw _ (List.mem_of_getElem? (i := 25) rfl))) (ty := .int) (by decide)
  have pre24 : ∀ t, Steps p.tables e below (T23.setTop (mkF m 46 #[.val (.int x0), .val (.int y0), .val (.int z0), .val (.int ia), .val (.int ib), .val (.int ic), .val (.ref op), .val (.ref b1), .unset, .unset, .unset, .unset, .unset, .unset, .unset] [(.ref b2)])) t → Steps p.tables e below (s₁.setTop (entryFrame m #[(.int x0), (.int y0), (.int z0)] maxLocals)) t := fun t k => pre22 t (st23 t k)
  have F25_0 : Fld Z h23 b1 "com/example/firmline/firmline/ProcessReplay$Span" "operation" "Lcom/example/firmline/firmline/Operation;" (.ref op) := (Fx0_18.ext E23)
  have F25_1 : Fld Z h23 b1 "com/example/firmline/firmline/ProcessReplay$Span" "response" "Ljava/lang/Object;" .null := (Fx1_18.ext E23)
  have F25_2 : Fld Z h23 b1 "com/example/firmline/firmline/ProcessReplay$Span" "firstStep" "I" (.int ia) := (Fx2_18.ext E23)
  have F25_3 : Fld Z h23 b1 "com/example/firmline/firmline/ProcessReplay$Span" "lastStep" "I" (.int ia) := (Fx3_18.ext E23)
  have E25_0 : Exa Z h23 b1 "com/example/firmline/firmline/ProcessReplay$Span" := (E20_0.ext E23)
  have Z25 : n0 ≤ h23.size := (Nat.le_trans Z20 E23.1)
  have pre27 : ∀ t, Steps p.tables e below (T23.setTop (mkF m 53 #[.val (.int x0), .val (.int y0), .val (.int z0), .val (.int ia), .val (.int ib), .val (.int ic), .val (.ref op), .val (.ref b1), .unset, .unset, .unset, .unset, .unset, .unset, .unset] [(.int ib), (.int ia), .null, (.ref op), (.ref b2), (.ref b2)])) t → Steps p.tables e below (s₁.setTop (entryFrame m #[(.int x0), (.int y0), (.int z0)] maxLocals)) t := by
    intro t k
    refine pre24 t ?_
    refine XS.dup X23.here hx rfl (hb hby at_46) rfl rfl ?_
    show Steps p.tables e below (T23.setTop (mkF m 47 #[.val (.int x0), .val (.int y0), .val (.int z0), .val (.int ia), .val (.int ib), .val (.int ic), .val (.ref op), .val (.ref b1), .unset, .unset, .unset, .unset, .unset, .unset, .unset] [(.ref b2), (.ref b2)])) _
    refine XS.aload X23.here hx rfl (hb hby at_47) rfl rfl ?_
    show Steps p.tables e below (T23.setTop (mkF m 49 #[.val (.int x0), .val (.int y0), .val (.int z0), .val (.int ia), .val (.int ib), .val (.int ic), .val (.ref op), .val (.ref b1), .unset, .unset, .unset, .unset, .unset, .unset, .unset] [(.ref op), (.ref b2), (.ref b2)])) _
    refine XS.aconstNull X23.here hx rfl (hb hby at_49) ?_
    show Steps p.tables e below (T23.setTop (mkF m 50 #[.val (.int x0), .val (.int y0), .val (.int z0), .val (.int ia), .val (.int ib), .val (.int ic), .val (.ref op), .val (.ref b1), .unset, .unset, .unset, .unset, .unset, .unset, .unset] [.null, (.ref op), (.ref b2), (.ref b2)])) _
    refine XS.iloadN X23.here hx rfl (hb hby at_50) rfl ?_
    show Steps p.tables e below (T23.setTop (mkF m 51 #[.val (.int x0), .val (.int y0), .val (.int z0), .val (.int ia), .val (.int ib), .val (.int ic), .val (.ref op), .val (.ref b1), .unset, .unset, .unset, .unset, .unset, .unset, .unset] [(.int ia), .null, (.ref op), (.ref b2), (.ref b2)])) _
    refine XS.iload X23.here hx rfl (hb hby at_51) rfl ?_
    show Steps p.tables e below (T23.setTop (mkF m 53 #[.val (.int x0), .val (.int y0), .val (.int z0), .val (.int ia), .val (.int ib), .val (.int ic), .val (.ref op), .val (.ref b1), .unset, .unset, .unset, .unset, .unset, .unset, .unset] [(.int ib), (.int ia), .null, (.ref op), (.ref b2), (.ref b2)])) _
    exact k
  obtain ⟨_, _, ⟨T29, L29, k29, n29⟩, -, X29, ⟨Lc29, hQ29, l29, y29, z29⟩, st29⟩ := X23.specialBack hx (y := (⟨"com/example/firmline/firmline/ProcessReplay$Span", "<init>", "(Lcom/example/firmline/firmline/Operation;Ljava/lang/Object;II)V"⟩ : MethodName)) rfl hown (mvT hZ (hw _ (List.mem_of_getElem? (i := 7) rfl))) (mvT hZ (hw _ (List.mem_of_getElem? (i := 8) rfl))) (mvT hZ (hw _ (List.mem_of_getElem? (i := 9) rfl))) (by decide) (backOf (W := 1) (rm1 l Z a0 hw [] b2 op ia ib h23 n0 Z25 A23 g_b2  F_operation_b2 F_response_b2 F_firstStep_b2 F_lastStep_b2) hZ (hw _ (List.mem_of_getElem? (i := 9) rfl)) (hw _ (List.mem_of_getElem? (i := 6) rfl)) (by decide) (by decide)) (g := (mkF m 53 #[.val (.int x0), .val (.int y0), .val (.int z0), .val (.int ia), .val (.int ib), .val (.int ic), .val (.ref op), .val (.ref b1), .unset, .unset, .unset, .unset, .unset, .unset, .unset] [(.int ib), (.int ia), .null, (.ref op), (.ref b2), (.ref b2)])) rfl (by rw [hml]; rfl) (Steps.refl _) (a := b2) (argsL := [(.ref op), .null, (.int ia), (.int ib)]) (rest := [(.ref b2)]) (lenOf pd_ini rfl) rfl (by show 2 * 0 + _ ≤ _; exact Nat.le_of_eq rfl) (hb hby at_53) (fun _ _ => ⟨rfl, e23, (by decide : 2 + 0 ≤ _), (by decide : 8 + 0 ≤ _)⟩)
  dsimp only [Pt.U, Pt.locs, Pt.cells, Pt.slots] at X29 l29 y29 z29 st29 hQ29
  subst l29 y29 z29
  obtain ⟨rfl, Nq29, Kq29, Fx0_29, Fx1_29, Fx2_29, Fx3_29⟩ := hQ29
  have N29 := Fr.app N18 Nq29
  have pre30 : ∀ t, Steps p.tables e below (T29.setTop (mkF m 56 #[.val (.int x0), .val (.int y0), .val (.int z0), .val (.int ia), .val (.int ib), .val (.int ic), .val (.ref op), .val (.ref b1), .unset, .unset, .unset, .unset, .unset, .unset, .unset] [(.ref b2)])) t → Steps p.tables e below (s₁.setTop (entryFrame m #[(.int x0), (.int y0), (.int z0)] maxLocals)) t := fun t k => pre27 t (st29.trans k)
  obtain ⟨h29, e29⟩ : ∃ z, T29.heap = z := ⟨_, rfl⟩
  rw [e29] at Kq29 Fx0_29 Fx1_29 Fx2_29 Fx3_29
  have F31_0 : Fld Z h29 b1 "com/example/firmline/firmline/ProcessReplay$Span" "operation" "Lcom/example/firmline/firmline/Operation;" (.ref op) := (F25_0.keep Kq29 (ninS ne_b1_b2 nin0))
  have F31_1 : Fld Z h29 b1 "com/example/firmline/firmline/ProcessReplay$Span" "response" "Ljava/lang/Object;" .null := (F25_1.keep Kq29 (ninS ne_b1_b2 nin0))
  have F31_2 : Fld Z h29 b1 "com/example/firmline/firmline/ProcessReplay$Span" "firstStep" "I" (.int ia) := (F25_2.keep Kq29 (ninS ne_b1_b2 nin0))
  have F31_3 : Fld Z h29 b1 "com/example/firmline/firmline/ProcessReplay$Span" "lastStep" "I" (.int ia) := (F25_3.keep Kq29 (ninS ne_b1_b2 nin0))
  have E31_0 : Exa Z h29 b1 "com/example/firmline/firmline/ProcessReplay$Span" := (E25_0.keep Kq29)
  have E31_1 : Exa Z h29 b2 "com/example/firmline/firmline/ProcessReplay$Span" := (A23.keep Kq29)
  have Z31 : n0 ≤ h29.size := (Nat.le_trans Z25 Kq29.1)
  have pre33 : ∀ t, Steps p.tables e below (T29.setTop (mkF m 58 #[.val (.int x0), .val (.int y0), .val (.int z0), .val (.int ia), .val (.int ib), .val (.int ic), .val (.ref op), .val (.ref b1), .val (.ref b2), .unset, .unset, .unset, .unset, .unset, .unset] [])) t → Steps p.tables e below (s₁.setTop (entryFrame m #[(.int x0), (.int y0), (.int z0)] maxLocals)) t := by
    intro t k
    refine pre30 t ?_
    refine XS.astore X29.here hx rfl (hb hby at_56) rfl rfl (l' := #[.val (.int x0), .val (.int y0), .val (.int z0), .val (.int ia), .val (.int ib), .val (.int ic), .val (.ref op), .val (.ref b1), .val (.ref b2), .unset, .unset, .unset, .unset, .unset, .unset]) rfl ?_
    show Steps p.tables e below (T29.setTop (mkF m 58 #[.val (.int x0), .val (.int y0), .val (.int z0), .val (.int ia), .val (.int ib), .val (.int ic), .val (.ref op), .val (.ref b1), .val (.ref b2), .unset, .unset, .unset, .unset, .unset, .unset] [])) _
    exact k
  obtain ⟨T34, h34, X34, e34, E34, A34, D34, -, st34⟩ := newO X29 hx hZ hown (hw _ (List.mem_of_getElem? (i := 4) rfl)) (hw _ (List.mem_of_getElem? (i := 5) rfl)) (hw _ (List.mem_of_getElem? (i := 6) rfl)) e29 (g := (mkF m 58 #[.val (.int x0), .val (.int y0), .val (.int z0), .val (.int ia), .val (.int ib), .val (.int ic), .val (.ref op), .val (.ref b1), .val (.ref b2), .unset, .unset, .unset, .unset, .unset, .unset] [])) rfl (hb hby at_58) (by decide) (by decide)
  obtain ⟨b3, gz34⟩ : ∃ z, z = h29.size := ⟨_, rfl⟩
  rw [← gz34] at A34 D34 st34
  have g_b3 : n0 ≤ b3 := Nat.le_trans Z31 (Nat.le_of_eq gz34.symm)
  have ne_b1_b3 : b1 ≠ b3 := by rw [gz34]; exact Nat.ne_of_lt F31_0.lt
  have ne_b2_b3 : b2 ≠ b3 := by rw [gz34]; exact Nat.ne_of_lt Fx0_29.lt
  have F_operation_b3 : Fld Z h34 b3 "com/example/firmline/firmline/ProcessReplay$Span" "operation" "Lcom/example/firmline/firmline/Operation;" .null := D34 (Or.inr (hw _ (List.mem_of_getElem? (i := 19) rfl))) (ty := (.object "com/example/firmline/firmline/Operation")) (by decide)
  have F_response_b3 : Fld Z h34 b3 "com/example/firmline/firmline/ProcessReplay$Span" "response" "Ljava/lang/Object;" .null := D34 (Or.inr (hw _ (List.mem_of_getElem? (i := 21) rfl))) (ty := (.object "java/lang/Object")) (by decide)
  have F_firstStep_b3 : Fld Z h34 b3 "com/example/firmline/firmline/ProcessReplay$Span" "firstStep" "I" (.int (0 : Int32)) := D34 (Or.inr (hw _ (List.mem_of_getElem? (i := 23) rfl))) (ty := .int) (by decide)
  have F_lastStep_b3 : Fld Z h34 b3 "com/example/firmline/firmline/ProcessReplay$Span" "lastStep" "I" (.int (0 : Int32)) := D34 (Or.inr (hw _ (List.mem_of_getElem? (i := 25) rfl))) (ty := .int) (by decide)
  have pre35 : ∀ t, Steps p.tables e below (T34.setTop (mkF m 61 #[.val (.int x0), .val (.int y0), .val (.int z0), .val (.int ia), .val (.int ib), .val (.int ic), .val (.ref op), .val (.ref b1), .val (.ref b2), .unset, .unset, .unset, .unset, .unset, .unset] [(.ref b3)])) t → Steps p.tables e below (s₁.setTop (entryFrame m #[(.int x0), (.int y0), (.int z0)] maxLocals)) t := fun t k => pre33 t (st34 t k)
  have F36_0 : Fld Z h34 b1 "com/example/firmline/firmline/ProcessReplay$Span" "operation" "Lcom/example/firmline/firmline/Operation;" (.ref op) := (F31_0.ext E34)
  have F36_1 : Fld Z h34 b1 "com/example/firmline/firmline/ProcessReplay$Span" "response" "Ljava/lang/Object;" .null := (F31_1.ext E34)
  have F36_2 : Fld Z h34 b1 "com/example/firmline/firmline/ProcessReplay$Span" "firstStep" "I" (.int ia) := (F31_2.ext E34)
  have F36_3 : Fld Z h34 b1 "com/example/firmline/firmline/ProcessReplay$Span" "lastStep" "I" (.int ia) := (F31_3.ext E34)
  have F36_4 : Fld Z h34 b2 "com/example/firmline/firmline/ProcessReplay$Span" "operation" "Lcom/example/firmline/firmline/Operation;" (.ref op) := (Fx0_29.ext E34)
  have F36_5 : Fld Z h34 b2 "com/example/firmline/firmline/ProcessReplay$Span" "response" "Ljava/lang/Object;" .null := (Fx1_29.ext E34)
  have F36_6 : Fld Z h34 b2 "com/example/firmline/firmline/ProcessReplay$Span" "firstStep" "I" (.int ia) := (Fx2_29.ext E34)
  have F36_7 : Fld Z h34 b2 "com/example/firmline/firmline/ProcessReplay$Span" "lastStep" "I" (.int ib) := (Fx3_29.ext E34)
  have E36_0 : Exa Z h34 b1 "com/example/firmline/firmline/ProcessReplay$Span" := (E31_0.ext E34)
  have E36_1 : Exa Z h34 b2 "com/example/firmline/firmline/ProcessReplay$Span" := (E31_1.ext E34)
  have Z36 : n0 ≤ h34.size := (Nat.le_trans Z31 E34.1)
  have pre38 : ∀ t, Steps p.tables e below (T34.setTop (mkF m 71 #[.val (.int x0), .val (.int y0), .val (.int z0), .val (.int ia), .val (.int ib), .val (.int ic), .val (.ref op), .val (.ref b1), .val (.ref b2), .unset, .unset, .unset, .unset, .unset, .unset] [(.int ic), (.int (ib + (1 : Int32))), .null, (.ref op), (.ref b3), (.ref b3)])) t → Steps p.tables e below (s₁.setTop (entryFrame m #[(.int x0), (.int y0), (.int z0)] maxLocals)) t := by
    intro t k
    refine pre35 t ?_
    refine XS.dup X34.here hx rfl (hb hby at_61) rfl rfl ?_
    show Steps p.tables e below (T34.setTop (mkF m 62 #[.val (.int x0), .val (.int y0), .val (.int z0), .val (.int ia), .val (.int ib), .val (.int ic), .val (.ref op), .val (.ref b1), .val (.ref b2), .unset, .unset, .unset, .unset, .unset, .unset] [(.ref b3), (.ref b3)])) _
    refine XS.aload X34.here hx rfl (hb hby at_62) rfl rfl ?_
    show Steps p.tables e below (T34.setTop (mkF m 64 #[.val (.int x0), .val (.int y0), .val (.int z0), .val (.int ia), .val (.int ib), .val (.int ic), .val (.ref op), .val (.ref b1), .val (.ref b2), .unset, .unset, .unset, .unset, .unset, .unset] [(.ref op), (.ref b3), (.ref b3)])) _
    refine XS.aconstNull X34.here hx rfl (hb hby at_64) ?_
    show Steps p.tables e below (T34.setTop (mkF m 65 #[.val (.int x0), .val (.int y0), .val (.int z0), .val (.int ia), .val (.int ib), .val (.int ic), .val (.ref op), .val (.ref b1), .val (.ref b2), .unset, .unset, .unset, .unset, .unset, .unset] [.null, (.ref op), (.ref b3), (.ref b3)])) _
    refine XS.iload X34.here hx rfl (hb hby at_65) rfl ?_
    show Steps p.tables e below (T34.setTop (mkF m 67 #[.val (.int x0), .val (.int y0), .val (.int z0), .val (.int ia), .val (.int ib), .val (.int ic), .val (.ref op), .val (.ref b1), .val (.ref b2), .unset, .unset, .unset, .unset, .unset, .unset] [(.int ib), .null, (.ref op), (.ref b3), (.ref b3)])) _
    refine XS.iconst X34.here hx rfl (hb hby at_67) ?_
    show Steps p.tables e below (T34.setTop (mkF m 68 #[.val (.int x0), .val (.int y0), .val (.int z0), .val (.int ia), .val (.int ib), .val (.int ic), .val (.ref op), .val (.ref b1), .val (.ref b2), .unset, .unset, .unset, .unset, .unset, .unset] [(.int (1 : Int32)), (.int ib), .null, (.ref op), (.ref b3), (.ref b3)])) _
    refine XS.iadd X34.here hx rfl (hb hby at_68) rfl ?_
    show Steps p.tables e below (T34.setTop (mkF m 69 #[.val (.int x0), .val (.int y0), .val (.int z0), .val (.int ia), .val (.int ib), .val (.int ic), .val (.ref op), .val (.ref b1), .val (.ref b2), .unset, .unset, .unset, .unset, .unset, .unset] [(.int (ib + (1 : Int32))), .null, (.ref op), (.ref b3), (.ref b3)])) _
    refine XS.iload X34.here hx rfl (hb hby at_69) rfl ?_
    show Steps p.tables e below (T34.setTop (mkF m 71 #[.val (.int x0), .val (.int y0), .val (.int z0), .val (.int ia), .val (.int ib), .val (.int ic), .val (.ref op), .val (.ref b1), .val (.ref b2), .unset, .unset, .unset, .unset, .unset, .unset] [(.int ic), (.int (ib + (1 : Int32))), .null, (.ref op), (.ref b3), (.ref b3)])) _
    exact k
  obtain ⟨_, _, ⟨T40, L40, k40, n40⟩, -, X40, ⟨Lc40, hQ40, l40, y40, z40⟩, st40⟩ := X34.specialBack hx (y := (⟨"com/example/firmline/firmline/ProcessReplay$Span", "<init>", "(Lcom/example/firmline/firmline/Operation;Ljava/lang/Object;II)V"⟩ : MethodName)) rfl hown (mvT hZ (hw _ (List.mem_of_getElem? (i := 7) rfl))) (mvT hZ (hw _ (List.mem_of_getElem? (i := 8) rfl))) (mvT hZ (hw _ (List.mem_of_getElem? (i := 9) rfl))) (by decide) (backOf (W := 1) (rm1 l Z a0 hw [] b3 op (ib + (1 : Int32)) ic h34 n0 Z36 A34 g_b3  F_operation_b3 F_response_b3 F_firstStep_b3 F_lastStep_b3) hZ (hw _ (List.mem_of_getElem? (i := 9) rfl)) (hw _ (List.mem_of_getElem? (i := 6) rfl)) (by decide) (by decide)) (g := (mkF m 71 #[.val (.int x0), .val (.int y0), .val (.int z0), .val (.int ia), .val (.int ib), .val (.int ic), .val (.ref op), .val (.ref b1), .val (.ref b2), .unset, .unset, .unset, .unset, .unset, .unset] [(.int ic), (.int (ib + (1 : Int32))), .null, (.ref op), (.ref b3), (.ref b3)])) rfl (by rw [hml]; rfl) (Steps.refl _) (a := b3) (argsL := [(.ref op), .null, (.int (ib + (1 : Int32))), (.int ic)]) (rest := [(.ref b3)]) (lenOf pd_ini rfl) rfl (by show 2 * 0 + _ ≤ _; exact Nat.le_of_eq rfl) (hb hby at_71) (fun _ _ => ⟨rfl, e34, (by decide : 3 + 0 ≤ _), (by decide : 12 + 0 ≤ _)⟩)
  dsimp only [Pt.U, Pt.locs, Pt.cells, Pt.slots] at X40 l40 y40 z40 st40 hQ40
  subst l40 y40 z40
  obtain ⟨rfl, Nq40, Kq40, Fx0_40, Fx1_40, Fx2_40, Fx3_40⟩ := hQ40
  have N40 := Fr.app N29 Nq40
  have pre41 : ∀ t, Steps p.tables e below (T40.setTop (mkF m 74 #[.val (.int x0), .val (.int y0), .val (.int z0), .val (.int ia), .val (.int ib), .val (.int ic), .val (.ref op), .val (.ref b1), .val (.ref b2), .unset, .unset, .unset, .unset, .unset, .unset] [(.ref b3)])) t → Steps p.tables e below (s₁.setTop (entryFrame m #[(.int x0), (.int y0), (.int z0)] maxLocals)) t := fun t k => pre38 t (st40.trans k)
  obtain ⟨h40, e40⟩ : ∃ z, T40.heap = z := ⟨_, rfl⟩
  rw [e40] at Kq40 Fx0_40 Fx1_40 Fx2_40 Fx3_40
  have F42_0 : Fld Z h40 b1 "com/example/firmline/firmline/ProcessReplay$Span" "operation" "Lcom/example/firmline/firmline/Operation;" (.ref op) := (F36_0.keep Kq40 (ninS ne_b1_b3 nin0))
  have F42_1 : Fld Z h40 b1 "com/example/firmline/firmline/ProcessReplay$Span" "response" "Ljava/lang/Object;" .null := (F36_1.keep Kq40 (ninS ne_b1_b3 nin0))
  have F42_2 : Fld Z h40 b1 "com/example/firmline/firmline/ProcessReplay$Span" "firstStep" "I" (.int ia) := (F36_2.keep Kq40 (ninS ne_b1_b3 nin0))
  have F42_3 : Fld Z h40 b1 "com/example/firmline/firmline/ProcessReplay$Span" "lastStep" "I" (.int ia) := (F36_3.keep Kq40 (ninS ne_b1_b3 nin0))
  have F42_4 : Fld Z h40 b2 "com/example/firmline/firmline/ProcessReplay$Span" "operation" "Lcom/example/firmline/firmline/Operation;" (.ref op) := (F36_4.keep Kq40 (ninS ne_b2_b3 nin0))
  have F42_5 : Fld Z h40 b2 "com/example/firmline/firmline/ProcessReplay$Span" "response" "Ljava/lang/Object;" .null := (F36_5.keep Kq40 (ninS ne_b2_b3 nin0))
  have F42_6 : Fld Z h40 b2 "com/example/firmline/firmline/ProcessReplay$Span" "firstStep" "I" (.int ia) := (F36_6.keep Kq40 (ninS ne_b2_b3 nin0))
  have F42_7 : Fld Z h40 b2 "com/example/firmline/firmline/ProcessReplay$Span" "lastStep" "I" (.int ib) := (F36_7.keep Kq40 (ninS ne_b2_b3 nin0))
  have E42_0 : Exa Z h40 b1 "com/example/firmline/firmline/ProcessReplay$Span" := (E36_0.keep Kq40)
  have E42_1 : Exa Z h40 b2 "com/example/firmline/firmline/ProcessReplay$Span" := (E36_1.keep Kq40)
  have E42_2 : Exa Z h40 b3 "com/example/firmline/firmline/ProcessReplay$Span" := (A34.keep Kq40)
  have Z42 : n0 ≤ h40.size := (Nat.le_trans Z36 Kq40.1)
  have pre44 : ∀ t, Steps p.tables e below (T40.setTop (mkF m 76 #[.val (.int x0), .val (.int y0), .val (.int z0), .val (.int ia), .val (.int ib), .val (.int ic), .val (.ref op), .val (.ref b1), .val (.ref b2), .val (.ref b3), .unset, .unset, .unset, .unset, .unset] [])) t → Steps p.tables e below (s₁.setTop (entryFrame m #[(.int x0), (.int y0), (.int z0)] maxLocals)) t := by
    intro t k
    refine pre41 t ?_
    refine XS.astore X40.here hx rfl (hb hby at_74) rfl rfl (l' := #[.val (.int x0), .val (.int y0), .val (.int z0), .val (.int ia), .val (.int ib), .val (.int ic), .val (.ref op), .val (.ref b1), .val (.ref b2), .val (.ref b3), .unset, .unset, .unset, .unset, .unset]) rfl ?_
    show Steps p.tables e below (T40.setTop (mkF m 76 #[.val (.int x0), .val (.int y0), .val (.int z0), .val (.int ia), .val (.int ib), .val (.int ic), .val (.ref op), .val (.ref b1), .val (.ref b2), .val (.ref b3), .unset, .unset, .unset, .unset, .unset] [])) _
    exact k
  obtain ⟨T45, h45, X45, e45, E45, A45, D45, -, st45⟩ := newO X40 hx hZ hown (hw _ (List.mem_of_getElem? (i := 4) rfl)) (hw _ (List.mem_of_getElem? (i := 5) rfl)) (hw _ (List.mem_of_getElem? (i := 6) rfl)) e40 (g := (mkF m 76 #[.val (.int x0), .val (.int y0), .val (.int z0), .val (.int ia), .val (.int ib), .val (.int ic), .val (.ref op), .val (.ref b1), .val (.ref b2), .val (.ref b3), .unset, .unset, .unset, .unset, .unset] [])) rfl (hb hby at_76) (by decide) (by decide)
  obtain ⟨b4, gz45⟩ : ∃ z, z = h40.size := ⟨_, rfl⟩
  rw [← gz45] at A45 D45 st45
  have g_b4 : n0 ≤ b4 := Nat.le_trans Z42 (Nat.le_of_eq gz45.symm)
  have ne_b1_b4 : b1 ≠ b4 := by rw [gz45]; exact Nat.ne_of_lt F42_0.lt
  have ne_b2_b4 : b2 ≠ b4 := by rw [gz45]; exact Nat.ne_of_lt F42_4.lt
  have ne_b3_b4 : b3 ≠ b4 := by rw [gz45]; exact Nat.ne_of_lt Fx0_40.lt
  have F_operation_b4 : Fld Z h45 b4 "com/example/firmline/firmline/ProcessReplay$Span" "operation" "Lcom/example/firmline/firmline/Operation;" .null := D45 (Or.inr (hw _ (List.mem_of_getElem? (i := 19) rfl))) (ty := (.object "com/example/firmline/firmline/Operation")) (by decide)
  have F_response_b4 : Fld Z h45 b4 "com/example/firmline/firmline/ProcessReplay$Span" "response" "Ljava/lang/Object;" .null := D45 (Or.inr (hw _ (List.mem_of_getElem? (i := 21) rfl))) (ty := (.object "java/lang/Object")) (by decide)
  have F_firstStep_b4 : Fld Z h45 b4 "com/example/firmline/firmline/ProcessReplay$Span" "firstStep" "I" (.int (0 : Int32)) := D45 (Or.inr (hw _ (List.mem_of_getElem? (i := 23) rfl))) (ty := .int) (by decide)
  have F_lastStep_b4 : Fld Z h45 b4 "com/example/firmline/firmline/ProcessReplay$Span" "lastStep" "I" (.int (0 : Int32)) := D45 (Or.inr (hw _ (List.mem_of_getElem? (i := 25) rfl))) (ty := .int) (by decide)
  have pre46 : ∀ t, Steps p.tables e below (T45.setTop (mkF m 79 #[.val (.int x0), .val (.int y0), .val (.int z0), .val (.int ia), .val (.int ib), .val (.int ic), .val (.ref op), .val (.ref b1), .val (.ref b2), .val (.ref b3), .unset, .unset, .unset, .unset, .unset] [(.ref b4)])) t → Steps p.tables e below (s₁.setTop (entryFrame m #[(.int x0), (.int y0), (.int z0)] maxLocals)) t := fun t k => pre44 t (st45 t k)
  have F47_0 : Fld Z h45 b1 "com/example/firmline/firmline/ProcessReplay$Span" "operation" "Lcom/example/firmline/firmline/Operation;" (.ref op) := (F42_0.ext E45)
  have F47_1 : Fld Z h45 b1 "com/example/firmline/firmline/ProcessReplay$Span" "response" "Ljava/lang/Object;" .null := (F42_1.ext E45)
  have F47_2 : Fld Z h45 b1 "com/example/firmline/firmline/ProcessReplay$Span" "firstStep" "I" (.int ia) := (F42_2.ext E45)
  have F47_3 : Fld Z h45 b1 "com/example/firmline/firmline/ProcessReplay$Span" "lastStep" "I" (.int ia) := (F42_3.ext E45)
  have F47_4 : Fld Z h45 b2 "com/example/firmline/firmline/ProcessReplay$Span" "operation" "Lcom/example/firmline/firmline/Operation;" (.ref op) := (F42_4.ext E45)
  have F47_5 : Fld Z h45 b2 "com/example/firmline/firmline/ProcessReplay$Span" "response" "Ljava/lang/Object;" .null := (F42_5.ext E45)
  have F47_6 : Fld Z h45 b2 "com/example/firmline/firmline/ProcessReplay$Span" "firstStep" "I" (.int ia) := (F42_6.ext E45)
  have F47_7 : Fld Z h45 b2 "com/example/firmline/firmline/ProcessReplay$Span" "lastStep" "I" (.int ib) := (F42_7.ext E45)
  have F47_8 : Fld Z h45 b3 "com/example/firmline/firmline/ProcessReplay$Span" "operation" "Lcom/example/firmline/firmline/Operation;" (.ref op) := (Fx0_40.ext E45)
  have F47_9 : Fld Z h45 b3 "com/example/firmline/firmline/ProcessReplay$Span" "response" "Ljava/lang/Object;" .null := (Fx1_40.ext E45)
  have F47_10 : Fld Z h45 b3 "com/example/firmline/firmline/ProcessReplay$Span" "firstStep" "I" (.int (ib + (1 : Int32))) := (Fx2_40.ext E45)
  have F47_11 : Fld Z h45 b3 "com/example/firmline/firmline/ProcessReplay$Span" "lastStep" "I" (.int ic) := (Fx3_40.ext E45)
  have E47_0 : Exa Z h45 b1 "com/example/firmline/firmline/ProcessReplay$Span" := (E42_0.ext E45)
  have E47_1 : Exa Z h45 b2 "com/example/firmline/firmline/ProcessReplay$Span" := (E42_1.ext E45)
  have E47_2 : Exa Z h45 b3 "com/example/firmline/firmline/ProcessReplay$Span" := (E42_2.ext E45)
  have Z47 : n0 ≤ h45.size := (Nat.le_trans Z42 E45.1)
  have pre49 : ∀ t, Steps p.tables e below (T45.setTop (mkF m 86 #[.val (.int x0), .val (.int y0), .val (.int z0), .val (.int ia), .val (.int ib), .val (.int ic), .val (.ref op), .val (.ref b1), .val (.ref b2), .val (.ref b3), .unset, .unset, .unset, .unset, .unset] [(.int ic), (.int ia), .null, (.ref op), (.ref b4), (.ref b4)])) t → Steps p.tables e below (s₁.setTop (entryFrame m #[(.int x0), (.int y0), (.int z0)] maxLocals)) t := by
    intro t k
    refine pre46 t ?_
    refine XS.dup X45.here hx rfl (hb hby at_79) rfl rfl ?_
    show Steps p.tables e below (T45.setTop (mkF m 80 #[.val (.int x0), .val (.int y0), .val (.int z0), .val (.int ia), .val (.int ib), .val (.int ic), .val (.ref op), .val (.ref b1), .val (.ref b2), .val (.ref b3), .unset, .unset, .unset, .unset, .unset] [(.ref b4), (.ref b4)])) _
    refine XS.aload X45.here hx rfl (hb hby at_80) rfl rfl ?_
    show Steps p.tables e below (T45.setTop (mkF m 82 #[.val (.int x0), .val (.int y0), .val (.int z0), .val (.int ia), .val (.int ib), .val (.int ic), .val (.ref op), .val (.ref b1), .val (.ref b2), .val (.ref b3), .unset, .unset, .unset, .unset, .unset] [(.ref op), (.ref b4), (.ref b4)])) _
    refine XS.aconstNull X45.here hx rfl (hb hby at_82) ?_
    show Steps p.tables e below (T45.setTop (mkF m 83 #[.val (.int x0), .val (.int y0), .val (.int z0), .val (.int ia), .val (.int ib), .val (.int ic), .val (.ref op), .val (.ref b1), .val (.ref b2), .val (.ref b3), .unset, .unset, .unset, .unset, .unset] [.null, (.ref op), (.ref b4), (.ref b4)])) _
    refine XS.iloadN X45.here hx rfl (hb hby at_83) rfl ?_
    show Steps p.tables e below (T45.setTop (mkF m 84 #[.val (.int x0), .val (.int y0), .val (.int z0), .val (.int ia), .val (.int ib), .val (.int ic), .val (.ref op), .val (.ref b1), .val (.ref b2), .val (.ref b3), .unset, .unset, .unset, .unset, .unset] [(.int ia), .null, (.ref op), (.ref b4), (.ref b4)])) _
    refine XS.iload X45.here hx rfl (hb hby at_84) rfl ?_
    show Steps p.tables e below (T45.setTop (mkF m 86 #[.val (.int x0), .val (.int y0), .val (.int z0), .val (.int ia), .val (.int ib), .val (.int ic), .val (.ref op), .val (.ref b1), .val (.ref b2), .val (.ref b3), .unset, .unset, .unset, .unset, .unset] [(.int ic), (.int ia), .null, (.ref op), (.ref b4), (.ref b4)])) _
    exact k
  obtain ⟨_, _, ⟨T51, L51, k51, n51⟩, -, X51, ⟨Lc51, hQ51, l51, y51, z51⟩, st51⟩ := X45.specialBack hx (y := (⟨"com/example/firmline/firmline/ProcessReplay$Span", "<init>", "(Lcom/example/firmline/firmline/Operation;Ljava/lang/Object;II)V"⟩ : MethodName)) rfl hown (mvT hZ (hw _ (List.mem_of_getElem? (i := 7) rfl))) (mvT hZ (hw _ (List.mem_of_getElem? (i := 8) rfl))) (mvT hZ (hw _ (List.mem_of_getElem? (i := 9) rfl))) (by decide) (backOf (W := 1) (rm1 l Z a0 hw [] b4 op ia ic h45 n0 Z47 A45 g_b4  F_operation_b4 F_response_b4 F_firstStep_b4 F_lastStep_b4) hZ (hw _ (List.mem_of_getElem? (i := 9) rfl)) (hw _ (List.mem_of_getElem? (i := 6) rfl)) (by decide) (by decide)) (g := (mkF m 86 #[.val (.int x0), .val (.int y0), .val (.int z0), .val (.int ia), .val (.int ib), .val (.int ic), .val (.ref op), .val (.ref b1), .val (.ref b2), .val (.ref b3), .unset, .unset, .unset, .unset, .unset] [(.int ic), (.int ia), .null, (.ref op), (.ref b4), (.ref b4)])) rfl (by rw [hml]; rfl) (Steps.refl _) (a := b4) (argsL := [(.ref op), .null, (.int ia), (.int ic)]) (rest := [(.ref b4)]) (lenOf pd_ini rfl) rfl (by show 2 * 0 + _ ≤ _; exact Nat.le_of_eq rfl) (hb hby at_86) (fun _ _ => ⟨rfl, e45, (by decide : 4 + 0 ≤ _), (by decide : 16 + 0 ≤ _)⟩)
  dsimp only [Pt.U, Pt.locs, Pt.cells, Pt.slots] at X51 l51 y51 z51 st51 hQ51
  subst l51 y51 z51
  obtain ⟨rfl, Nq51, Kq51, Fx0_51, Fx1_51, Fx2_51, Fx3_51⟩ := hQ51
  have N51 := Fr.app N40 Nq51
  have pre52 : ∀ t, Steps p.tables e below (T51.setTop (mkF m 89 #[.val (.int x0), .val (.int y0), .val (.int z0), .val (.int ia), .val (.int ib), .val (.int ic), .val (.ref op), .val (.ref b1), .val (.ref b2), .val (.ref b3), .unset, .unset, .unset, .unset, .unset] [(.ref b4)])) t → Steps p.tables e below (s₁.setTop (entryFrame m #[(.int x0), (.int y0), (.int z0)] maxLocals)) t := fun t k => pre49 t (st51.trans k)
  obtain ⟨h51, e51⟩ : ∃ z, T51.heap = z := ⟨_, rfl⟩
  rw [e51] at Kq51 Fx0_51 Fx1_51 Fx2_51 Fx3_51
  have F53_0 : Fld Z h51 b1 "com/example/firmline/firmline/ProcessReplay$Span" "operation" "Lcom/example/firmline/firmline/Operation;" (.ref op) := (F47_0.keep Kq51 (ninS ne_b1_b4 nin0))
  have F53_1 : Fld Z h51 b1 "com/example/firmline/firmline/ProcessReplay$Span" "response" "Ljava/lang/Object;" .null := (F47_1.keep Kq51 (ninS ne_b1_b4 nin0))
  have F53_2 : Fld Z h51 b1 "com/example/firmline/firmline/ProcessReplay$Span" "firstStep" "I" (.int ia) := (F47_2.keep Kq51 (ninS ne_b1_b4 nin0))
  have F53_3 : Fld Z h51 b1 "com/example/firmline/firmline/ProcessReplay$Span" "lastStep" "I" (.int ia) := (F47_3.keep Kq51 (ninS ne_b1_b4 nin0))
  have F53_4 : Fld Z h51 b2 "com/example/firmline/firmline/ProcessReplay$Span" "operation" "Lcom/example/firmline/firmline/Operation;" (.ref op) := (F47_4.keep Kq51 (ninS ne_b2_b4 nin0))
  have F53_5 : Fld Z h51 b2 "com/example/firmline/firmline/ProcessReplay$Span" "response" "Ljava/lang/Object;" .null := (F47_5.keep Kq51 (ninS ne_b2_b4 nin0))
  have F53_6 : Fld Z h51 b2 "com/example/firmline/firmline/ProcessReplay$Span" "firstStep" "I" (.int ia) := (F47_6.keep Kq51 (ninS ne_b2_b4 nin0))
  have F53_7 : Fld Z h51 b2 "com/example/firmline/firmline/ProcessReplay$Span" "lastStep" "I" (.int ib) := (F47_7.keep Kq51 (ninS ne_b2_b4 nin0))
  have F53_8 : Fld Z h51 b3 "com/example/firmline/firmline/ProcessReplay$Span" "operation" "Lcom/example/firmline/firmline/Operation;" (.ref op) := (F47_8.keep Kq51 (ninS ne_b3_b4 nin0))
  have F53_9 : Fld Z h51 b3 "com/example/firmline/firmline/ProcessReplay$Span" "response" "Ljava/lang/Object;" .null := (F47_9.keep Kq51 (ninS ne_b3_b4 nin0))
  have F53_10 : Fld Z h51 b3 "com/example/firmline/firmline/ProcessReplay$Span" "firstStep" "I" (.int (ib + (1 : Int32))) := (F47_10.keep Kq51 (ninS ne_b3_b4 nin0))
  have F53_11 : Fld Z h51 b3 "com/example/firmline/firmline/ProcessReplay$Span" "lastStep" "I" (.int ic) := (F47_11.keep Kq51 (ninS ne_b3_b4 nin0))
  have E53_0 : Exa Z h51 b1 "com/example/firmline/firmline/ProcessReplay$Span" := (E47_0.keep Kq51)
  have E53_1 : Exa Z h51 b2 "com/example/firmline/firmline/ProcessReplay$Span" := (E47_1.keep Kq51)
  have E53_2 : Exa Z h51 b3 "com/example/firmline/firmline/ProcessReplay$Span" := (E47_2.keep Kq51)
  have E53_3 : Exa Z h51 b4 "com/example/firmline/firmline/ProcessReplay$Span" := (A45.keep Kq51)
  have Z53 : n0 ≤ h51.size := (Nat.le_trans Z47 Kq51.1)
  have pre55 : ∀ t, Steps p.tables e below (T51.setTop (mkF m 93 #[.val (.int x0), .val (.int y0), .val (.int z0), .val (.int ia), .val (.int ib), .val (.int ic), .val (.ref op), .val (.ref b1), .val (.ref b2), .val (.ref b3), .val (.ref b4), .unset, .unset, .unset, .unset] [(.ref b1)])) t → Steps p.tables e below (s₁.setTop (entryFrame m #[(.int x0), (.int y0), (.int z0)] maxLocals)) t := by
    intro t k
    refine pre52 t ?_
    refine XS.astore X51.here hx rfl (hb hby at_89) rfl rfl (l' := #[.val (.int x0), .val (.int y0), .val (.int z0), .val (.int ia), .val (.int ib), .val (.int ic), .val (.ref op), .val (.ref b1), .val (.ref b2), .val (.ref b3), .val (.ref b4), .unset, .unset, .unset, .unset]) rfl ?_
    show Steps p.tables e below (T51.setTop (mkF m 91 #[.val (.int x0), .val (.int y0), .val (.int z0), .val (.int ia), .val (.int ib), .val (.int ic), .val (.ref op), .val (.ref b1), .val (.ref b2), .val (.ref b3), .val (.ref b4), .unset, .unset, .unset, .unset] [])) _
    refine XS.aload X51.here hx rfl (hb hby at_91) rfl rfl ?_
    show Steps p.tables e below (T51.setTop (mkF m 93 #[.val (.int x0), .val (.int y0), .val (.int z0), .val (.int ia), .val (.int ib), .val (.int ic), .val (.ref op), .val (.ref b1), .val (.ref b2), .val (.ref b3), .val (.ref b4), .unset, .unset, .unset, .unset] [(.ref b1)])) _
    exact k
  obtain ⟨cq56, kq56, q56a, q56b, q56c⟩ := isOf hZ e51 E53_0
  obtain ⟨_, _, ⟨T56, L56, k56, n56⟩, -, X56, ⟨Lc56, hQ56, l56, y56, z56⟩, st56⟩ := X51.virtualBack hx (y := (⟨"com/example/firmline/firmline/ProcessReplay$Span", "steps", "()I"⟩ : MethodName)) (z := (⟨"com/example/firmline/firmline/ProcessReplay$Span", "steps", "()I"⟩ : MethodName)) hown (mvT hZ (hw _ (List.mem_of_getElem? (i := 26) rfl))) (mvT hZ (hw _ (List.mem_of_getElem? (i := 27) rfl))) (notFace_of_selects (args := #[]) (mvT hZ (hw _ (List.mem_of_getElem? (i := 29) rfl)))) (mvT hZ (hw _ (List.mem_of_getElem? (i := 29) rfl))) (mvT hZ (hw _ (List.mem_of_getElem? (i := 28) rfl))) (by decide) (backOf (W := 0) (rm4 l Z a0 hw [] b1 ia ia h51 n0 Z53 F53_2 F53_3) hZ (hw _ (List.mem_of_getElem? (i := 30) rfl)) (hw _ (List.mem_of_getElem? (i := 6) rfl)) (by decide) (by decide)) q56a q56c (g := (mkF m 93 #[.val (.int x0), .val (.int y0), .val (.int z0), .val (.int ia), .val (.int ib), .val (.int ic), .val (.ref op), .val (.ref b1), .val (.ref b2), .val (.ref b3), .val (.ref b4), .unset, .unset, .unset, .unset] [(.ref b1)])) rfl (by rw [hml]; rfl) (Steps.refl _) (argsL := []) (rest := []) (lenOf pd_st rfl) rfl (by show 2 * 0 + _ ≤ _; exact Nat.le_of_eq rfl) (hb hby at_93) (fun _ _ => ⟨rfl, e51, (by decide : 4 + 0 ≤ _), (by decide : 16 + 0 ≤ _)⟩)
  dsimp only [Pt.U, Pt.locs, Pt.cells, Pt.slots] at X56 l56 y56 z56 st56 hQ56
  subst l56 y56 z56
  obtain ⟨rfl, Nq56, heq56⟩ := hQ56
  have N56 := Fr.app N51 Nq56
  have pre57 : ∀ t, Steps p.tables e below (T56.setTop (mkF m 96 #[.val (.int x0), .val (.int y0), .val (.int z0), .val (.int ia), .val (.int ib), .val (.int ic), .val (.ref op), .val (.ref b1), .val (.ref b2), .val (.ref b3), .val (.ref b4), .unset, .unset, .unset, .unset] [(.int ((ia - ia) + 1))])) t → Steps p.tables e below (s₁.setTop (entryFrame m #[(.int x0), (.int y0), (.int z0)] maxLocals)) t := fun t k => pre55 t (st56.trans k)
  have pre59 : ∀ t, Steps p.tables e below (T56.setTop (mkF m 100 #[.val (.int x0), .val (.int y0), .val (.int z0), .val (.int ia), .val (.int ib), .val (.int ic), .val (.ref op), .val (.ref b1), .val (.ref b2), .val (.ref b3), .val (.ref b4), .val (.int ((ia - ia) + 1)), .unset, .unset, .unset] [(.ref b2)])) t → Steps p.tables e below (s₁.setTop (entryFrame m #[(.int x0), (.int y0), (.int z0)] maxLocals)) t := by
    intro t k
    refine pre57 t ?_
    refine XS.istore X56.here hx rfl (hb hby at_96) rfl (l' := #[.val (.int x0), .val (.int y0), .val (.int z0), .val (.int ia), .val (.int ib), .val (.int ic), .val (.ref op), .val (.ref b1), .val (.ref b2), .val (.ref b3), .val (.ref b4), .val (.int ((ia - ia) + 1)), .unset, .unset, .unset]) rfl ?_
    show Steps p.tables e below (T56.setTop (mkF m 98 #[.val (.int x0), .val (.int y0), .val (.int z0), .val (.int ia), .val (.int ib), .val (.int ic), .val (.ref op), .val (.ref b1), .val (.ref b2), .val (.ref b3), .val (.ref b4), .val (.int ((ia - ia) + 1)), .unset, .unset, .unset] [])) _
    refine XS.aload X56.here hx rfl (hb hby at_98) rfl rfl ?_
    show Steps p.tables e below (T56.setTop (mkF m 100 #[.val (.int x0), .val (.int y0), .val (.int z0), .val (.int ia), .val (.int ib), .val (.int ic), .val (.ref op), .val (.ref b1), .val (.ref b2), .val (.ref b3), .val (.ref b4), .val (.int ((ia - ia) + 1)), .unset, .unset, .unset] [(.ref b2)])) _
    exact k
  obtain ⟨cq60, kq60, q60a, q60b, q60c⟩ := isOf hZ heq56 E53_1
  obtain ⟨_, _, ⟨T60, L60, k60, n60⟩, -, X60, ⟨Lc60, hQ60, l60, y60, z60⟩, st60⟩ := X56.virtualBack hx (y := (⟨"com/example/firmline/firmline/ProcessReplay$Span", "steps", "()I"⟩ : MethodName)) (z := (⟨"com/example/firmline/firmline/ProcessReplay$Span", "steps", "()I"⟩ : MethodName)) hown (mvT hZ (hw _ (List.mem_of_getElem? (i := 26) rfl))) (mvT hZ (hw _ (List.mem_of_getElem? (i := 27) rfl))) (notFace_of_selects (args := #[]) (mvT hZ (hw _ (List.mem_of_getElem? (i := 29) rfl)))) (mvT hZ (hw _ (List.mem_of_getElem? (i := 29) rfl))) (mvT hZ (hw _ (List.mem_of_getElem? (i := 28) rfl))) (by decide) (backOf (W := 0) (rm4 l Z a0 hw [] b2 ia ib h51 n0 Z53 F53_6 F53_7) hZ (hw _ (List.mem_of_getElem? (i := 30) rfl)) (hw _ (List.mem_of_getElem? (i := 6) rfl)) (by decide) (by decide)) q60a q60c (g := (mkF m 100 #[.val (.int x0), .val (.int y0), .val (.int z0), .val (.int ia), .val (.int ib), .val (.int ic), .val (.ref op), .val (.ref b1), .val (.ref b2), .val (.ref b3), .val (.ref b4), .val (.int ((ia - ia) + 1)), .unset, .unset, .unset] [(.ref b2)])) rfl (by rw [hml]; rfl) (Steps.refl _) (argsL := []) (rest := []) (lenOf pd_st rfl) rfl (by show 2 * 0 + _ ≤ _; exact Nat.le_of_eq rfl) (hb hby at_100) (fun _ _ => ⟨rfl, heq56, (by decide : 4 + 0 ≤ _), (by decide : 16 + 0 ≤ _)⟩)
  dsimp only [Pt.U, Pt.locs, Pt.cells, Pt.slots] at X60 l60 y60 z60 st60 hQ60
  subst l60 y60 z60
  obtain ⟨rfl, Nq60, heq60⟩ := hQ60
  have N60 := Fr.app N56 Nq60
  have pre61 : ∀ t, Steps p.tables e below (T60.setTop (mkF m 103 #[.val (.int x0), .val (.int y0), .val (.int z0), .val (.int ia), .val (.int ib), .val (.int ic), .val (.ref op), .val (.ref b1), .val (.ref b2), .val (.ref b3), .val (.ref b4), .val (.int ((ia - ia) + 1)), .unset, .unset, .unset] [(.int ((ib - ia) + 1))])) t → Steps p.tables e below (s₁.setTop (entryFrame m #[(.int x0), (.int y0), (.int z0)] maxLocals)) t := fun t k => pre59 t (st60.trans k)
  have pre63 : ∀ t, Steps p.tables e below (T60.setTop (mkF m 107 #[.val (.int x0), .val (.int y0), .val (.int z0), .val (.int ia), .val (.int ib), .val (.int ic), .val (.ref op), .val (.ref b1), .val (.ref b2), .val (.ref b3), .val (.ref b4), .val (.int ((ia - ia) + 1)), .val (.int ((ib - ia) + 1)), .unset, .unset] [(.ref b3)])) t → Steps p.tables e below (s₁.setTop (entryFrame m #[(.int x0), (.int y0), (.int z0)] maxLocals)) t := by
    intro t k
    refine pre61 t ?_
    refine XS.istore X60.here hx rfl (hb hby at_103) rfl (l' := #[.val (.int x0), .val (.int y0), .val (.int z0), .val (.int ia), .val (.int ib), .val (.int ic), .val (.ref op), .val (.ref b1), .val (.ref b2), .val (.ref b3), .val (.ref b4), .val (.int ((ia - ia) + 1)), .val (.int ((ib - ia) + 1)), .unset, .unset]) rfl ?_
    show Steps p.tables e below (T60.setTop (mkF m 105 #[.val (.int x0), .val (.int y0), .val (.int z0), .val (.int ia), .val (.int ib), .val (.int ic), .val (.ref op), .val (.ref b1), .val (.ref b2), .val (.ref b3), .val (.ref b4), .val (.int ((ia - ia) + 1)), .val (.int ((ib - ia) + 1)), .unset, .unset] [])) _
    refine XS.aload X60.here hx rfl (hb hby at_105) rfl rfl ?_
    show Steps p.tables e below (T60.setTop (mkF m 107 #[.val (.int x0), .val (.int y0), .val (.int z0), .val (.int ia), .val (.int ib), .val (.int ic), .val (.ref op), .val (.ref b1), .val (.ref b2), .val (.ref b3), .val (.ref b4), .val (.int ((ia - ia) + 1)), .val (.int ((ib - ia) + 1)), .unset, .unset] [(.ref b3)])) _
    exact k
  obtain ⟨cq64, kq64, q64a, q64b, q64c⟩ := isOf hZ heq60 E53_2
  obtain ⟨_, _, ⟨T64, L64, k64, n64⟩, -, X64, ⟨Lc64, hQ64, l64, y64, z64⟩, st64⟩ := X60.virtualBack hx (y := (⟨"com/example/firmline/firmline/ProcessReplay$Span", "steps", "()I"⟩ : MethodName)) (z := (⟨"com/example/firmline/firmline/ProcessReplay$Span", "steps", "()I"⟩ : MethodName)) hown (mvT hZ (hw _ (List.mem_of_getElem? (i := 26) rfl))) (mvT hZ (hw _ (List.mem_of_getElem? (i := 27) rfl))) (notFace_of_selects (args := #[]) (mvT hZ (hw _ (List.mem_of_getElem? (i := 29) rfl)))) (mvT hZ (hw _ (List.mem_of_getElem? (i := 29) rfl))) (mvT hZ (hw _ (List.mem_of_getElem? (i := 28) rfl))) (by decide) (backOf (W := 0) (rm4 l Z a0 hw [] b3 (ib + (1 : Int32)) ic h51 n0 Z53 F53_10 F53_11) hZ (hw _ (List.mem_of_getElem? (i := 30) rfl)) (hw _ (List.mem_of_getElem? (i := 6) rfl)) (by decide) (by decide)) q64a q64c (g := (mkF m 107 #[.val (.int x0), .val (.int y0), .val (.int z0), .val (.int ia), .val (.int ib), .val (.int ic), .val (.ref op), .val (.ref b1), .val (.ref b2), .val (.ref b3), .val (.ref b4), .val (.int ((ia - ia) + 1)), .val (.int ((ib - ia) + 1)), .unset, .unset] [(.ref b3)])) rfl (by rw [hml]; rfl) (Steps.refl _) (argsL := []) (rest := []) (lenOf pd_st rfl) rfl (by show 2 * 0 + _ ≤ _; exact Nat.le_of_eq rfl) (hb hby at_107) (fun _ _ => ⟨rfl, heq60, (by decide : 4 + 0 ≤ _), (by decide : 16 + 0 ≤ _)⟩)
  dsimp only [Pt.U, Pt.locs, Pt.cells, Pt.slots] at X64 l64 y64 z64 st64 hQ64
  subst l64 y64 z64
  obtain ⟨rfl, Nq64, heq64⟩ := hQ64
  have N64 := Fr.app N60 Nq64
  have pre65 : ∀ t, Steps p.tables e below (T64.setTop (mkF m 110 #[.val (.int x0), .val (.int y0), .val (.int z0), .val (.int ia), .val (.int ib), .val (.int ic), .val (.ref op), .val (.ref b1), .val (.ref b2), .val (.ref b3), .val (.ref b4), .val (.int ((ia - ia) + 1)), .val (.int ((ib - ia) + 1)), .unset, .unset] [(.int ((ic - (ib + (1 : Int32))) + 1))])) t → Steps p.tables e below (s₁.setTop (entryFrame m #[(.int x0), (.int y0), (.int z0)] maxLocals)) t := fun t k => pre63 t (st64.trans k)
  have pre67 : ∀ t, Steps p.tables e below (T64.setTop (mkF m 114 #[.val (.int x0), .val (.int y0), .val (.int z0), .val (.int ia), .val (.int ib), .val (.int ic), .val (.ref op), .val (.ref b1), .val (.ref b2), .val (.ref b3), .val (.ref b4), .val (.int ((ia - ia) + 1)), .val (.int ((ib - ia) + 1)), .val (.int ((ic - (ib + (1 : Int32))) + 1)), .unset] [(.ref b4)])) t → Steps p.tables e below (s₁.setTop (entryFrame m #[(.int x0), (.int y0), (.int z0)] maxLocals)) t := by
    intro t k
    refine pre65 t ?_
    refine XS.istore X64.here hx rfl (hb hby at_110) rfl (l' := #[.val (.int x0), .val (.int y0), .val (.int z0), .val (.int ia), .val (.int ib), .val (.int ic), .val (.ref op), .val (.ref b1), .val (.ref b2), .val (.ref b3), .val (.ref b4), .val (.int ((ia - ia) + 1)), .val (.int ((ib - ia) + 1)), .val (.int ((ic - (ib + (1 : Int32))) + 1)), .unset]) rfl ?_
    show Steps p.tables e below (T64.setTop (mkF m 112 #[.val (.int x0), .val (.int y0), .val (.int z0), .val (.int ia), .val (.int ib), .val (.int ic), .val (.ref op), .val (.ref b1), .val (.ref b2), .val (.ref b3), .val (.ref b4), .val (.int ((ia - ia) + 1)), .val (.int ((ib - ia) + 1)), .val (.int ((ic - (ib + (1 : Int32))) + 1)), .unset] [])) _
    refine XS.aload X64.here hx rfl (hb hby at_112) rfl rfl ?_
    show Steps p.tables e below (T64.setTop (mkF m 114 #[.val (.int x0), .val (.int y0), .val (.int z0), .val (.int ia), .val (.int ib), .val (.int ic), .val (.ref op), .val (.ref b1), .val (.ref b2), .val (.ref b3), .val (.ref b4), .val (.int ((ia - ia) + 1)), .val (.int ((ib - ia) + 1)), .val (.int ((ic - (ib + (1 : Int32))) + 1)), .unset] [(.ref b4)])) _
    exact k
  obtain ⟨cq68, kq68, q68a, q68b, q68c⟩ := isOf hZ heq64 E53_3
  obtain ⟨_, _, ⟨T68, L68, k68, n68⟩, -, X68, ⟨Lc68, hQ68, l68, y68, z68⟩, st68⟩ := X64.virtualBack hx (y := (⟨"com/example/firmline/firmline/ProcessReplay$Span", "steps", "()I"⟩ : MethodName)) (z := (⟨"com/example/firmline/firmline/ProcessReplay$Span", "steps", "()I"⟩ : MethodName)) hown (mvT hZ (hw _ (List.mem_of_getElem? (i := 26) rfl))) (mvT hZ (hw _ (List.mem_of_getElem? (i := 27) rfl))) (notFace_of_selects (args := #[]) (mvT hZ (hw _ (List.mem_of_getElem? (i := 29) rfl)))) (mvT hZ (hw _ (List.mem_of_getElem? (i := 29) rfl))) (mvT hZ (hw _ (List.mem_of_getElem? (i := 28) rfl))) (by decide) (backOf (W := 0) (rm4 l Z a0 hw [] b4 ia ic h51 n0 Z53 Fx2_51 Fx3_51) hZ (hw _ (List.mem_of_getElem? (i := 30) rfl)) (hw _ (List.mem_of_getElem? (i := 6) rfl)) (by decide) (by decide)) q68a q68c (g := (mkF m 114 #[.val (.int x0), .val (.int y0), .val (.int z0), .val (.int ia), .val (.int ib), .val (.int ic), .val (.ref op), .val (.ref b1), .val (.ref b2), .val (.ref b3), .val (.ref b4), .val (.int ((ia - ia) + 1)), .val (.int ((ib - ia) + 1)), .val (.int ((ic - (ib + (1 : Int32))) + 1)), .unset] [(.ref b4)])) rfl (by rw [hml]; rfl) (Steps.refl _) (argsL := []) (rest := []) (lenOf pd_st rfl) rfl (by show 2 * 0 + _ ≤ _; exact Nat.le_of_eq rfl) (hb hby at_114) (fun _ _ => ⟨rfl, heq64, (by decide : 4 + 0 ≤ _), (by decide : 16 + 0 ≤ _)⟩)
  dsimp only [Pt.U, Pt.locs, Pt.cells, Pt.slots] at X68 l68 y68 z68 st68 hQ68
  subst l68 y68 z68
  obtain ⟨rfl, Nq68, heq68⟩ := hQ68
  have N68 := Fr.app N64 Nq68
  have pre69 : ∀ t, Steps p.tables e below (T68.setTop (mkF m 117 #[.val (.int x0), .val (.int y0), .val (.int z0), .val (.int ia), .val (.int ib), .val (.int ic), .val (.ref op), .val (.ref b1), .val (.ref b2), .val (.ref b3), .val (.ref b4), .val (.int ((ia - ia) + 1)), .val (.int ((ib - ia) + 1)), .val (.int ((ic - (ib + (1 : Int32))) + 1)), .unset] [(.int ((ic - ia) + 1))])) t → Steps p.tables e below (s₁.setTop (entryFrame m #[(.int x0), (.int y0), (.int z0)] maxLocals)) t := fun t k => pre67 t (st68.trans k)
  have pre70 : ∀ t, Steps p.tables e below (T68.setTop (mkF m 152 #[.val (.int x0), .val (.int y0), .val (.int z0), .val (.int ia), .val (.int ib), .val (.int ic), .val (.ref op), .val (.ref b1), .val (.ref b2), .val (.ref b3), .val (.ref b4), .val (.int ((ia - ia) + 1)), .val (.int ((ib - ia) + 1)), .val (.int ((ic - (ib + (1 : Int32))) + 1)), .val (.int ((ic - ia) + 1))] [(.int (1 : Int32))])) t → Steps p.tables e below (s₁.setTop (entryFrame m #[(.int x0), (.int y0), (.int z0)] maxLocals)) t := by
    intro t k
    refine pre69 t ?_
    refine XS.istore X68.here hx rfl (hb hby at_117) rfl (l' := #[.val (.int x0), .val (.int y0), .val (.int z0), .val (.int ia), .val (.int ib), .val (.int ic), .val (.ref op), .val (.ref b1), .val (.ref b2), .val (.ref b3), .val (.ref b4), .val (.int ((ia - ia) + 1)), .val (.int ((ib - ia) + 1)), .val (.int ((ic - (ib + (1 : Int32))) + 1)), .val (.int ((ic - ia) + 1))]) rfl ?_
    show Steps p.tables e below (T68.setTop (mkF m 119 #[.val (.int x0), .val (.int y0), .val (.int z0), .val (.int ia), .val (.int ib), .val (.int ic), .val (.ref op), .val (.ref b1), .val (.ref b2), .val (.ref b3), .val (.ref b4), .val (.int ((ia - ia) + 1)), .val (.int ((ib - ia) + 1)), .val (.int ((ic - (ib + (1 : Int32))) + 1)), .val (.int ((ic - ia) + 1))] [])) _
    refine XS.iload X68.here hx rfl (hb hby at_119) rfl ?_
    show Steps p.tables e below (T68.setTop (mkF m 121 #[.val (.int x0), .val (.int y0), .val (.int z0), .val (.int ia), .val (.int ib), .val (.int ic), .val (.ref op), .val (.ref b1), .val (.ref b2), .val (.ref b3), .val (.ref b4), .val (.int ((ia - ia) + 1)), .val (.int ((ib - ia) + 1)), .val (.int ((ic - (ib + (1 : Int32))) + 1)), .val (.int ((ic - ia) + 1))] [(.int ((ia - ia) + 1))])) _
    refine XS.iconst X68.here hx rfl (hb hby at_121) ?_
    show Steps p.tables e below (T68.setTop (mkF m 122 #[.val (.int x0), .val (.int y0), .val (.int z0), .val (.int ia), .val (.int ib), .val (.int ic), .val (.ref op), .val (.ref b1), .val (.ref b2), .val (.ref b3), .val (.ref b4), .val (.int ((ia - ia) + 1)), .val (.int ((ib - ia) + 1)), .val (.int ((ic - (ib + (1 : Int32))) + 1)), .val (.int ((ic - ia) + 1))] [(.int (1 : Int32)), (.int ((ia - ia) + 1))])) _
    refine XS.icmpNo X68.here hx rfl (hb hby at_122) rfl (XT.ii_ne_f hz.1) ?_
    show Steps p.tables e below (T68.setTop (mkF m 125 #[.val (.int x0), .val (.int y0), .val (.int z0), .val (.int ia), .val (.int ib), .val (.int ic), .val (.ref op), .val (.ref b1), .val (.ref b2), .val (.ref b3), .val (.ref b4), .val (.int ((ia - ia) + 1)), .val (.int ((ib - ia) + 1)), .val (.int ((ic - (ib + (1 : Int32))) + 1)), .val (.int ((ic - ia) + 1))] [])) _
    refine XS.iload X68.here hx rfl (hb hby at_125) rfl ?_
    show Steps p.tables e below (T68.setTop (mkF m 127 #[.val (.int x0), .val (.int y0), .val (.int z0), .val (.int ia), .val (.int ib), .val (.int ic), .val (.ref op), .val (.ref b1), .val (.ref b2), .val (.ref b3), .val (.ref b4), .val (.int ((ia - ia) + 1)), .val (.int ((ib - ia) + 1)), .val (.int ((ic - (ib + (1 : Int32))) + 1)), .val (.int ((ic - ia) + 1))] [(.int ((ib - ia) + 1))])) _
    refine XS.iconst X68.here hx rfl (hb hby at_127) ?_
    show Steps p.tables e below (T68.setTop (mkF m 128 #[.val (.int x0), .val (.int y0), .val (.int z0), .val (.int ia), .val (.int ib), .val (.int ic), .val (.ref op), .val (.ref b1), .val (.ref b2), .val (.ref b3), .val (.ref b4), .val (.int ((ia - ia) + 1)), .val (.int ((ib - ia) + 1)), .val (.int ((ic - (ib + (1 : Int32))) + 1)), .val (.int ((ic - ia) + 1))] [(.int (1 : Int32)), (.int ((ib - ia) + 1))])) _
    refine XS.icmpNo X68.here hx rfl (hb hby at_128) rfl (XT.ii_lt_f hz.2.1) ?_
    show Steps p.tables e below (T68.setTop (mkF m 131 #[.val (.int x0), .val (.int y0), .val (.int z0), .val (.int ia), .val (.int ib), .val (.int ic), .val (.ref op), .val (.ref b1), .val (.ref b2), .val (.ref b3), .val (.ref b4), .val (.int ((ia - ia) + 1)), .val (.int ((ib - ia) + 1)), .val (.int ((ic - (ib + (1 : Int32))) + 1)), .val (.int ((ic - ia) + 1))] [])) _
    refine XS.iload X68.here hx rfl (hb hby at_131) rfl ?_
    show Steps p.tables e below (T68.setTop (mkF m 133 #[.val (.int x0), .val (.int y0), .val (.int z0), .val (.int ia), .val (.int ib), .val (.int ic), .val (.ref op), .val (.ref b1), .val (.ref b2), .val (.ref b3), .val (.ref b4), .val (.int ((ia - ia) + 1)), .val (.int ((ib - ia) + 1)), .val (.int ((ic - (ib + (1 : Int32))) + 1)), .val (.int ((ic - ia) + 1))] [(.int ((ic - (ib + (1 : Int32))) + 1))])) _
    refine XS.iconst X68.here hx rfl (hb hby at_133) ?_
    show Steps p.tables e below (T68.setTop (mkF m 134 #[.val (.int x0), .val (.int y0), .val (.int z0), .val (.int ia), .val (.int ib), .val (.int ic), .val (.ref op), .val (.ref b1), .val (.ref b2), .val (.ref b3), .val (.ref b4), .val (.int ((ia - ia) + 1)), .val (.int ((ib - ia) + 1)), .val (.int ((ic - (ib + (1 : Int32))) + 1)), .val (.int ((ic - ia) + 1))] [(.int (1 : Int32)), (.int ((ic - (ib + (1 : Int32))) + 1))])) _
    refine XS.icmpNo X68.here hx rfl (hb hby at_134) rfl (XT.ii_lt_f hz.2.2.1) ?_
    show Steps p.tables e below (T68.setTop (mkF m 137 #[.val (.int x0), .val (.int y0), .val (.int z0), .val (.int ia), .val (.int ib), .val (.int ic), .val (.ref op), .val (.ref b1), .val (.ref b2), .val (.ref b3), .val (.ref b4), .val (.int ((ia - ia) + 1)), .val (.int ((ib - ia) + 1)), .val (.int ((ic - (ib + (1 : Int32))) + 1)), .val (.int ((ic - ia) + 1))] [])) _
    refine XS.iload X68.here hx rfl (hb hby at_137) rfl ?_
    show Steps p.tables e below (T68.setTop (mkF m 139 #[.val (.int x0), .val (.int y0), .val (.int z0), .val (.int ia), .val (.int ib), .val (.int ic), .val (.ref op), .val (.ref b1), .val (.ref b2), .val (.ref b3), .val (.ref b4), .val (.int ((ia - ia) + 1)), .val (.int ((ib - ia) + 1)), .val (.int ((ic - (ib + (1 : Int32))) + 1)), .val (.int ((ic - ia) + 1))] [(.int ((ib - ia) + 1))])) _
    refine XS.iload X68.here hx rfl (hb hby at_139) rfl ?_
    show Steps p.tables e below (T68.setTop (mkF m 141 #[.val (.int x0), .val (.int y0), .val (.int z0), .val (.int ia), .val (.int ib), .val (.int ic), .val (.ref op), .val (.ref b1), .val (.ref b2), .val (.ref b3), .val (.ref b4), .val (.int ((ia - ia) + 1)), .val (.int ((ib - ia) + 1)), .val (.int ((ic - (ib + (1 : Int32))) + 1)), .val (.int ((ic - ia) + 1))] [(.int ((ic - (ib + (1 : Int32))) + 1)), (.int ((ib - ia) + 1))])) _
    refine XS.iadd X68.here hx rfl (hb hby at_141) rfl ?_
    show Steps p.tables e below (T68.setTop (mkF m 142 #[.val (.int x0), .val (.int y0), .val (.int z0), .val (.int ia), .val (.int ib), .val (.int ic), .val (.ref op), .val (.ref b1), .val (.ref b2), .val (.ref b3), .val (.ref b4), .val (.int ((ia - ia) + 1)), .val (.int ((ib - ia) + 1)), .val (.int ((ic - (ib + (1 : Int32))) + 1)), .val (.int ((ic - ia) + 1))] [(.int (((ib - ia) + 1) + ((ic - (ib + (1 : Int32))) + 1)))])) _
    refine XS.iload X68.here hx rfl (hb hby at_142) rfl ?_
    show Steps p.tables e below (T68.setTop (mkF m 144 #[.val (.int x0), .val (.int y0), .val (.int z0), .val (.int ia), .val (.int ib), .val (.int ic), .val (.ref op), .val (.ref b1), .val (.ref b2), .val (.ref b3), .val (.ref b4), .val (.int ((ia - ia) + 1)), .val (.int ((ib - ia) + 1)), .val (.int ((ic - (ib + (1 : Int32))) + 1)), .val (.int ((ic - ia) + 1))] [(.int ((ic - ia) + 1)), (.int (((ib - ia) + 1) + ((ic - (ib + (1 : Int32))) + 1)))])) _
    refine XS.icmpNo X68.here hx rfl (hb hby at_144) rfl (XT.ii_ne_f hz.2.2.2) ?_
    show Steps p.tables e below (T68.setTop (mkF m 147 #[.val (.int x0), .val (.int y0), .val (.int z0), .val (.int ia), .val (.int ib), .val (.int ic), .val (.ref op), .val (.ref b1), .val (.ref b2), .val (.ref b3), .val (.ref b4), .val (.int ((ia - ia) + 1)), .val (.int ((ib - ia) + 1)), .val (.int ((ic - (ib + (1 : Int32))) + 1)), .val (.int ((ic - ia) + 1))] [])) _
    refine XS.iconst X68.here hx rfl (hb hby at_147) ?_
    show Steps p.tables e below (T68.setTop (mkF m 148 #[.val (.int x0), .val (.int y0), .val (.int z0), .val (.int ia), .val (.int ib), .val (.int ic), .val (.ref op), .val (.ref b1), .val (.ref b2), .val (.ref b3), .val (.ref b4), .val (.int ((ia - ia) + 1)), .val (.int ((ib - ia) + 1)), .val (.int ((ic - (ib + (1 : Int32))) + 1)), .val (.int ((ic - ia) + 1))] [(.int (1 : Int32))])) _
    refine XS.goto X68.here hx rfl (pc0 := 148) (pc' := 152) rfl (hb hby at_148) (by decide) (by decide) ?_
    show Steps p.tables e below (T68.setTop (mkF m 152 #[.val (.int x0), .val (.int y0), .val (.int z0), .val (.int ia), .val (.int ib), .val (.int ic), .val (.ref op), .val (.ref b1), .val (.ref b2), .val (.ref b3), .val (.ref b4), .val (.int ((ia - ia) + 1)), .val (.int ((ib - ia) + 1)), .val (.int ((ic - (ib + (1 : Int32))) + 1)), .val (.int ((ic - ia) + 1))] [(.int (1 : Int32))])) _
    exact k
  obtain ⟨fs, hr, hrun, hended, hW, hsame⟩ := X68.leave (v := some (.int (1 : Int32))) (fun h => by rw [Bd.returns] at h; cases h)
  refine ⟨_, _, pre70 _ ?_, hrun, hended, _, _, rfl, ?_, ⟨_, rfl⟩, hW, hsame.mono (by decide) (by decide)⟩
  · exact retOut X68 hx Bd.returns rfl (Or.inl ⟨rfl, by simp, _, rfl⟩) (hb hby at_152) hr
  · show Qlaw Z x0 y0 z0 op h0 n0 _ T68.heap _
    rw [heq68]
    exact ⟨rfl, N68⟩
set_option maxRecDepth 65536 in
set_option maxHeartbeats 40000000 in
theorem comes_1 {Post : Tables → Env → Array Value → State → Outcome → State → Prop} (hpost : ∀ tb e args s v u, (limb_1_1.after args s (.returned v) u = true ∧ limb_1_2.after args s (.returned v) u = true ∧ True) → FrameEnd s (.returned v) u (Jvm.fieldLocs frame_1_writes args s ++ Jvm.arrayLocs frame_1_arrays args s ++ Jvm.staticLocs frame_1_statics s) 16 128 → Post tb e args s (.returned v) u) :
    ArmFor flags0 classFile x code maxLocals ret World_1 tables_1 room_1 Calls_1 rest_1 Pre_1 Post := by
  intro l hfl _ _ p e ha hc hk s m args below hf hA hF happ hP
  obtain ⟨hcalls, hrest, hpre⟩ := hP
  obtain ⟨-, -, -, hnamed, -, -, -, hat⟩ := (Spec.applies_iff hf).mp happ
  obtain ⟨hg, hn⟩ := and_e (Cond.before_iff.mp (show (Jvm.Cond.and given_1 narrow_1).before args s = true from hpre))
  obtain ⟨gc, g0⟩ := and_e hg
  obtain ⟨w0, w1, w2, rfl⟩ : ∃ w0 w1 w2 : Value, args = #[w0, w1, w2] := by
    have hs : args.size = 3 := by simpa [Cond.value, given_1] using gc
    obtain ⟨L⟩ := args
    match L, hs with
    | [w0, w1, w2], _ => exact ⟨w0, w1, w2, rfl⟩
  have hw := fun d (hd : d ∈ tables_1) => atoms_spec (ws := Jvm.Cond.code x code maxLocals ret :: tables_1) hat d (List.mem_cons_of_mem _ hd)
  have hfit : Fit s := fun {y c} hc i hi => by
    obtain ⟨ha, rfl⟩ := Array.getElem?_eq_some_iff.mp hc
    have q := List.all_eq_true.mp ((Array.all_eq_true_iff_forall_mem.mp hF) _ (Array.getElem_mem ha)) i (List.mem_range.mpr hi)
    simpa [Array.getElem?_eq_getElem hi] using q
  obtain ⟨ga0, gb0⟩ := and_e g0
  obtain ⟨i0, ei0⟩ := is_v ga0
  obtain rfl : w0 = (.int i0) := Option.some.inj ei0
  obtain ⟨ga1, gb1⟩ := and_e gb0
  obtain ⟨i1, ei1⟩ := is_v ga1
  obtain rfl : w1 = (.int i1) := Option.some.inj ei1
  obtain ⟨i2, ei2⟩ := is_v gb1
  obtain rfl : w2 = (.int i2) := Option.some.inj ei2
  obtain ⟨op, eop⟩ := exa_v hn
  have SF : Sta s s.heap "com/example/firmline/firmline/Operation" "FLIP" "Lcom/example/firmline/firmline/Operation;" (.ref op) := Sta.start eop (Or.inr ⟨(hw _ (List.mem_of_getElem? (i := 2) rfl)), (hw _ (List.mem_of_getElem? (i := 3) rfl))⟩)
  obtain ⟨n, o, h1, h2, h3, _, L, rfl, ⟨rfl, N⟩, hq⟩ := rmlaw l s _ hw tables_1 i0 i1 i2 op s.heap s.heap.size (Nat.le_refl _) SF p e ha hc hk s m _ below hf ((Spec.applies_iff_loose hf).mp happ).1 ⟨rfl, State.Warmed39.refl s, rfl⟩ trivial
  refine ⟨n, _, h1, h2, h3, hpost _ _ _ _ _ _ ⟨Cond.after_iff.mpr rfl, Cond.after_iff.mpr (eq_i res_at (Term.int_eval (1)) rfl), trivial⟩ ⟨hq.1, hq.2.1, (hq.2.2.sift fun y hy => Or.inr (N y hy)).mono (by decide) (by decide)⟩⟩
theorem main_1_1 : Claimed_1_1 := comes_1 fun _ _ _ _ _ _ h hF => ⟨h.1, hF⟩
theorem main_1_2 : Claimed_1_2 := comes_1 fun _ _ _ _ _ _ h hF => ⟨h.2.1, hF⟩
end Jvm.Pilot.@@N@@
namespace Jvm.Pilot.@@N@@
open Jvm Jvm.ClassFile Sem Op Lib Jvm.Free Jvm.Stand Jvm.Pilot.@@N@@.Jvm.D
/-! MADE BY PROGRAM (witnessworld.py) out of the Statement's table words and the real class files: 11 classes; the members and pool entries that the words name. The judged class is class 1, her method 1. -/
namespace start1
open Jvm.ClassFile
def u (s : String) : CpInfo := .utf8 (stringToUtf16 s)
/-- a pool by its gaps: so many unusable entries, then the entry; so many at the end -/
def gap : Nat → List CpInfo → List CpInfo
  | 0, r => r
  | n + 1, r => .unusable :: gap n r
def poolList (es : List (Nat × CpInfo)) (last : Nat) : List CpInfo := es.foldr (fun e r => gap e.1 (e.2 :: r)) (gap last [])
def pool (es : List (Nat × CpInfo)) (last : Nat) : Array CpInfo := ⟨poolList es last⟩
def fileOf (pool : Array CpInfo) (this : Nat) (attrs : Array Attribute := #[]) (ms : Array MethodInfo := #[]) (fl : Nat := 33) (sup : Nat := 0) (ifs : Array Nat := #[]) (fds : Array FieldInfo := #[]) : ClassFile where
  minorVersion := 0
  majorVersion := 65
  constantPool := pool
  accessFlags := fl
  thisClass := this
  superClass := sup
  interfaces := ifs
  fields := fds
  methods := ms
  attributes := attrs
def plain (name : String) (sup : Option ClassId) : Class where
  name := name
  kind := .ordinary
  loader := none
  accessFlags := 33
  super := sup
  interfaces := #[]
  cf := none
  fields := #[]
  methods := #[]
  instanceTypes := #[]
  staticTypes := #[]
  resolved := #[]
  callSites := []
  init := .initialized
  statics := none
  mirror := none

def pool0 : Array CpInfo := pool [(5, u "<init>"), (0, u "()V"), (1, .class_ 10), (1, u "java/lang/Object")] 113

def k0c0 : Code := { maxStack := 0, maxLocals := 1, code := object_method_1_code, exceptionTable := #[], attributes := #[] }
def k0m0 : Method := { name := "<init>", desc := "()V", sig := { parameters := [], returnType := none }, accessFlags := 1, code := some k0c0 }
/-- java/lang/Object -/
def k0 : Class := { plain "java/lang/Object" none with
  accessFlags := 33
  interfaces := #[]
  cf := some (fileOf pool0 8 #[] #[{ accessFlags := 1, nameIndex := 5, descriptorIndex := 6, attributes := #[] }] 33 0 #[] #[])
  fields := #[]
  methods := #[k0m0]
  instanceTypes := #[]
  staticTypes := #[]
  resolved := Array.replicate 124 none
  statics := none }

def pool1 : Array CpInfo := pool [(2, .class_ 4), (1, u "java/lang/Object"), (0, u "<init>"), (0, u "()V"), (0, .integer 536870911), (0, .fieldref 9 10), (0, .class_ 11), (0, .nameAndType 12 13), (0, u "com/example/firmline/firmline/Operation"), (0, u "FLIP"), (0, u "Lcom/example/firmline/firmline/Operation;"), (0, .class_ 15), (0, u "com/example/firmline/firmline/ProcessReplay$Span"), (0, .methodref 14 17), (0, .nameAndType 5 18), (0, u "(Lcom/example/firmline/firmline/Operation;Ljava/lang/Object;II)V"), (0, .methodref 14 20), (0, .nameAndType 21 22), (0, u "steps"), (0, u "()I"), (0, .class_ 24), (0, u "com/example/firmline/firmline/SpanStepsPinLaw"), (2, u "law"), (0, u "(III)Z")] 7

def k1m0 : Method := { name := "<init>", desc := "()V", sig := { parameters := [], returnType := none }, accessFlags := 2, code := none }
def k1c1 : Code := { maxStack := 6, maxLocals := 15, code := code, exceptionTable := #[], attributes := #[] }
def k1m1 : Method := { name := "law", desc := "(III)Z", sig := { parameters := [.int, .int, .int], returnType := some .boolean }, accessFlags := 9, code := some k1c1 }
/-- com/example/firmline/firmline/SpanStepsPinLaw -/
def k1 : Class := { plain "com/example/firmline/firmline/SpanStepsPinLaw" (some 0) with
  accessFlags := 49
  interfaces := #[]
  cf := some (fileOf pool1 23 #[] #[{ accessFlags := 2, nameIndex := 5, descriptorIndex := 6, attributes := #[] }, { accessFlags := 9, nameIndex := 27, descriptorIndex := 28, attributes := #[] }] 49 2 #[] #[])
  fields := #[]
  methods := #[k1m0, k1m1]
  instanceTypes := #[]
  staticTypes := #[]
  resolved := Array.replicate 36 none
  statics := none }

def pool2 : Array CpInfo := pool [(1, .methodref 2 3), (0, .class_ 4), (0, .nameAndType 5 6), (0, u "java/lang/Object"), (0, u "<init>"), (0, u "()V"), (0, .class_ 8), (0, u "java/lang/Record")] 13

def k2c0 : Code := { maxStack := 1, maxLocals := 1, code := jdk_30_method_1_code, exceptionTable := #[], attributes := #[] }
def k2m0 : Method := { name := "<init>", desc := "()V", sig := { parameters := [], returnType := none }, accessFlags := 4, code := some k2c0 }
/-- java/lang/Record -/
def k2 : Class := { plain "java/lang/Record" (some 0) with
  accessFlags := 1057
  interfaces := #[]
  cf := some (fileOf pool2 7 #[] #[{ accessFlags := 4, nameIndex := 5, descriptorIndex := 6, attributes := #[] }] 1057 2 #[] #[])
  fields := #[]
  methods := #[k2m0]
  instanceTypes := #[]
  staticTypes := #[]
  resolved := Array.replicate 22 none
  statics := none }

def pool3 : Array CpInfo := pool [(2, .class_ 4), (1, u "java/lang/Record"), (9, .class_ 16), (1, u "com/example/firmline/firmline/Operation"), (0, u "name"), (0, u "Ljava/lang/String;"), (2, u "arguments"), (0, u "Ljava/util/List;"), (130, u "FLIP"), (0, u "Lcom/example/firmline/firmline/Operation;")] 104

/-- com/example/firmline/firmline/Operation -/
def k3 : Class := { plain "com/example/firmline/firmline/Operation" (some 2) with
  accessFlags := 49
  interfaces := #[]
  cf := some (fileOf pool3 14 #[] #[] 49 2 #[] #[{ accessFlags := 18, nameIndex := 17, descriptorIndex := 18, attributes := #[] }, { accessFlags := 18, nameIndex := 21, descriptorIndex := 22, attributes := #[] }, { accessFlags := 24, nameIndex := 153, descriptorIndex := 154, attributes := #[] }])
  fields := #[{ name := "name", type := (.object "java/lang/String"), accessFlags := 18, slot := 0, constantValue := 0 }, { name := "arguments", type := (.object "java/util/List"), accessFlags := 18, slot := 1, constantValue := 0 }, { name := "FLIP", type := (.object "com/example/firmline/firmline/Operation"), accessFlags := 24, slot := 0, constantValue := 0 }]
  methods := #[]
  instanceTypes := #[(.object "java/lang/String"), (.object "java/util/List")]
  staticTypes := #[(.object "com/example/firmline/firmline/Operation")]
  resolved := Array.replicate 259 none
  statics := some 0 }

def pool4 : Array CpInfo := pool [(1, .methodref 2 3), (0, .class_ 4), (0, .nameAndType 5 6), (0, u "java/lang/Record"), (0, u "<init>"), (0, u "()V"), (0, .fieldref 8 9), (0, .class_ 10), (0, .nameAndType 11 12), (0, u "com/example/firmline/firmline/ProcessReplay$Span"), (0, u "operation"), (0, u "Lcom/example/firmline/firmline/Operation;"), (0, .fieldref 8 14), (0, .nameAndType 15 16), (0, u "response"), (0, u "Ljava/lang/Object;"), (0, .fieldref 8 18), (0, .nameAndType 19 20), (0, u "firstStep"), (0, u "I"), (0, .fieldref 8 22), (0, .nameAndType 23 20), (0, u "lastStep"), (12, u "(Lcom/example/firmline/firmline/Operation;Ljava/lang/Object;II)V"), (3, u "steps"), (0, u "()I"), (7, .class_ 50), (0, u "com/example/firmline/firmline/ProcessReplay")] 22

def k4c0 : Code := { maxStack := 2, maxLocals := 5, code := prog_82_method_1_code, exceptionTable := #[], attributes := #[] }
def k4m0 : Method := { name := "<init>", desc := "(Lcom/example/firmline/firmline/Operation;Ljava/lang/Object;II)V", sig := { parameters := [(.object "com/example/firmline/firmline/Operation"), (.object "java/lang/Object"), .int, .int], returnType := none }, accessFlags := 0, code := some k4c0 }
def k4c1 : Code := { maxStack := 2, maxLocals := 1, code := prog_82_method_2_code, exceptionTable := #[], attributes := #[] }
def k4m1 : Method := { name := "steps", desc := "()I", sig := { parameters := [], returnType := some .int }, accessFlags := 0, code := some k4c1 }
/-- com/example/firmline/firmline/ProcessReplay$Span -/
def k4 : Class := { plain "com/example/firmline/firmline/ProcessReplay$Span" (some 2) with
  accessFlags := 48
  interfaces := #[]
  cf := some (fileOf pool4 8 #[.nestHost 49] #[{ accessFlags := 0, nameIndex := 5, descriptorIndex := 36, attributes := #[] }, { accessFlags := 0, nameIndex := 40, descriptorIndex := 41, attributes := #[] }] 48 2 #[] #[{ accessFlags := 18, nameIndex := 11, descriptorIndex := 12, attributes := #[] }, { accessFlags := 18, nameIndex := 15, descriptorIndex := 16, attributes := #[] }, { accessFlags := 18, nameIndex := 19, descriptorIndex := 20, attributes := #[] }, { accessFlags := 18, nameIndex := 23, descriptorIndex := 20, attributes := #[] }])
  fields := #[{ name := "operation", type := (.object "com/example/firmline/firmline/Operation"), accessFlags := 18, slot := 0, constantValue := 0 }, { name := "response", type := (.object "java/lang/Object"), accessFlags := 18, slot := 1, constantValue := 0 }, { name := "firstStep", type := .int, accessFlags := 18, slot := 2, constantValue := 0 }, { name := "lastStep", type := .int, accessFlags := 18, slot := 3, constantValue := 0 }]
  methods := #[k4m0, k4m1]
  instanceTypes := #[(.object "com/example/firmline/firmline/Operation"), (.object "java/lang/Object"), .int, .int]
  staticTypes := #[]
  resolved := Array.replicate 73 none
  statics := none }

def pool5 : Array CpInfo := pool [(1, u "java/lang/Cloneable"), (0, .class_ 1), (0, u "java/lang/Object"), (0, .class_ 3)] 3

/-- java/lang/Cloneable -/
def k5 : Class := { plain "java/lang/Cloneable" (some 0) with
  accessFlags := 1537
  interfaces := #[]
  cf := some (fileOf pool5 2 #[] #[] 1537 4 #[] #[])
  fields := #[]
  methods := #[]
  instanceTypes := #[]
  staticTypes := #[]
  resolved := Array.replicate 8 none
  statics := none }

def pool6 : Array CpInfo := pool [(1, u "java/io/Serializable"), (0, .class_ 1), (0, u "java/lang/Object"), (0, .class_ 3)] 3

/-- java/io/Serializable -/
def k6 : Class := { plain "java/io/Serializable" (some 0) with
  accessFlags := 1537
  interfaces := #[]
  cf := some (fileOf pool6 2 #[] #[] 1537 4 #[] #[])
  fields := #[]
  methods := #[]
  instanceTypes := #[]
  staticTypes := #[]
  resolved := Array.replicate 8 none
  statics := none }

/-- the primitive byte -/
def k7 : Class := { plain "byte" none with kind := .primitive 'B', accessFlags := 0x411 }
/-- [B -/
def k8 : Class := { plain "[B" (some 0) with kind := .array 7 .byte, interfaces := #[5, 6], accessFlags := 1041 }

/-- the primitive int -/
def k9 : Class := { plain "int" none with kind := .primitive 'I', accessFlags := 0x411 }
/-- [I -/
def k10 : Class := { plain "[I" (some 0) with kind := .array 9 .int, interfaces := #[5, 6], accessFlags := 1041 }

def heap : Heap := #[{ cls := 3, slots := #[.ref 1], vm := .statics 3 },
  { cls := 3, slots := #[.null, .null], vm := .none }]
def classes : Array Class := #[k0, k1, k2, k3, k4, k5, k6, k7, k8, k9, k10]
def interned : List (Array UInt16 × Addr) := []
def slotsUsed : Nat := 3
def theMethod : MethodId := ⟨1, 1⟩
def args0 : Array Value := #[.int 5, .int 6, .int 7]
def aboutOver (below : List Frame) : State where
  vm := { classes := classes, interned := interned.toArray }
  heap := heap
  slotsUsed := slotsUsed
  threads := #[{ frames := .invoking theMethod args0 :: below }]
def below0 : List Frame := [.native { method := ⟨0, 0⟩, args := #[] }]
def about1 : State := aboutOver below0
def p0 : Program := .bare "" "" ""
def e0 : Env := launch0.env 0 0 0
theorem w_frames : about1.frames = Frame.invoking theMethod args0 :: below0 := rfl
set_option maxRecDepth 65536 in
theorem w_args : argsFit about1.vm theMethod args0 = true := by decide +kernel
set_option maxRecDepth 65536 in
theorem w_heap : heapFits about1 = true := by decide +kernel
set_option maxRecDepth 65536 in
theorem w_runnable : about1.curStatus? = some .runnable := by decide +kernel
set_option maxRecDepth 65536 in
theorem w_alone : about1.alone = true := by decide +kernel
set_option maxRecDepth 65536 in
theorem w_named : about1.methodNamed? x = some theMethod := by decide +kernel
set_option maxRecDepth 65536 in
theorem w_hears : about1.hears theMethod below0 = true := by decide +kernel
set_option maxRecDepth 65536 in
theorem w_ripe : about1.ripe theMethod args0 below0 = true := by decide +kernel
theorem w_running : about1.status = .running := rfl
set_option maxRecDepth 65536 in
theorem w_room : about1.hasRoom e0.platform room_1 = true :=
  launch0.hasRoom_least _ room_1 (by decide +kernel) (by decide +kernel) (by decide +kernel) (by decide +kernel) (by decide +kernel) (by decide +kernel)
theorem allAtoms_all (ts : List Jvm.Cond) (a : Array Jvm.Value) (st : Jvm.State) : (allAtoms ts).before a st = ts.all (fun c => c.before a st) := by
  induction ts with
  | nil => rfl
  | cons c t ih =>
    show (Jvm.Cond.and c (allAtoms t)).before a st = _
    rw [Jvm.Cond.before_and, ih, List.all_cons]
def words1 : List Jvm.Cond := Jvm.Cond.code x code maxLocals ret :: tables_1
/-- a 'code' word, met by the world's own term for the bytes: nothing is compared byte by byte -/
theorem code_word {y : MethodName} {bytes : ByteArray} {mx : Nat} {rt : Option FieldType} {a : Array Value} {s : State} {m : MethodId} {meth : Method} {c : Code} (h1 : s.methodNamed? y = some m) (h2 : s.vm.method? m = some meth) (h3 : meth.code = some c) (h4 : c.code = bytes)
    (h5 : (c.maxLocals == mx && c.exceptionTable.isEmpty && decide (c.maxStack ≤ mostOperands) && decide (meth.sig.returnType = rt) && !meth.locks && decide (parseMethodDescriptor y.desc = some meth.sig)) = true) : (Jvm.Cond.code y bytes mx rt).before a s = true := by
  simp only [Bool.and_eq_true, beq_iff_eq, Bool.not_eq_true', decide_eq_true_eq] at h5
  obtain ⟨⟨⟨⟨⟨g1, g2⟩, g3⟩, g4⟩, g5⟩, g6⟩ := h5
  simp [Cond.before, Cond.holds, Cond.value, h1, h2, h3, h4, g1, g2, g3, g4, g5, g6]
def isCode : Jvm.Cond → Bool
  | .code _ _ _ _ => true
  | _ => false
theorem all_split {L : List Jvm.Cond} {P : Jvm.Cond → Bool} (h1 : L.all (fun c => isCode c || P c) = true) (h2 : ∀ c ∈ L.filter isCode, P c = true) : L.all P = true := by
  refine List.all_eq_true.mpr fun c hc => ?_
  have h := List.all_eq_true.mp h1 c hc
  rcases Bool.eq_false_or_eq_true (isCode c) with hi | hi
  · exact h2 c (List.mem_filter.mpr ⟨hc, hi⟩)
  · simpa [hi] using h
set_option maxRecDepth 65536 in
theorem w_c0 : (Jvm.Cond.code x code maxLocals ret).before args0 about1 = true := code_word (m := ⟨1, 1⟩) (meth := k1m1) (c := k1c1) (by decide +kernel) rfl rfl rfl (by decide +kernel)
set_option maxRecDepth 65536 in
theorem w_c1 : (Jvm.Cond.code ({ cls := "com/example/firmline/firmline/ProcessReplay$Span", name := "<init>", desc := "(Lcom/example/firmline/firmline/Operation;Ljava/lang/Object;II)V" } : Jvm.MethodName) prog_82_method_1_code (5 : Nat) (Option.none : Option Jvm.ClassFile.FieldType)).before args0 about1 = true := code_word (m := ⟨4, 0⟩) (meth := k4m0) (c := k4c0) (by decide +kernel) rfl rfl rfl (by decide +kernel)
set_option maxRecDepth 65536 in
theorem w_c2 : (Jvm.Cond.code ({ cls := "java/lang/Record", name := "<init>", desc := "()V" } : Jvm.MethodName) jdk_30_method_1_code (1 : Nat) (Option.none : Option Jvm.ClassFile.FieldType)).before args0 about1 = true := code_word (m := ⟨2, 0⟩) (meth := k2m0) (c := k2c0) (by decide +kernel) rfl rfl rfl (by decide +kernel)
set_option maxRecDepth 65536 in
theorem w_c3 : (Jvm.Cond.code ({ cls := "java/lang/Object", name := "<init>", desc := "()V" } : Jvm.MethodName) object_method_1_code (1 : Nat) (Option.none : Option Jvm.ClassFile.FieldType)).before args0 about1 = true := code_word (m := ⟨0, 0⟩) (meth := k0m0) (c := k0c0) (by decide +kernel) rfl rfl rfl (by decide +kernel)
set_option maxRecDepth 65536 in
theorem w_c4 : (Jvm.Cond.code ({ cls := "com/example/firmline/firmline/ProcessReplay$Span", name := "steps", desc := "()I" } : Jvm.MethodName) prog_82_method_2_code (1 : Nat) (Option.some Jvm.ClassFile.FieldType.int)).before args0 about1 = true := code_word (m := ⟨4, 1⟩) (meth := k4m1) (c := k4c1) (by decide +kernel) rfl rfl rfl (by decide +kernel)
def codes1 : List Jvm.Cond := [Jvm.Cond.code x code maxLocals ret, Jvm.Cond.code ({ cls := "com/example/firmline/firmline/ProcessReplay$Span", name := "<init>", desc := "(Lcom/example/firmline/firmline/Operation;Ljava/lang/Object;II)V" } : Jvm.MethodName) prog_82_method_1_code (5 : Nat) (Option.none : Option Jvm.ClassFile.FieldType), Jvm.Cond.code ({ cls := "java/lang/Record", name := "<init>", desc := "()V" } : Jvm.MethodName) jdk_30_method_1_code (1 : Nat) (Option.none : Option Jvm.ClassFile.FieldType), Jvm.Cond.code ({ cls := "java/lang/Object", name := "<init>", desc := "()V" } : Jvm.MethodName) object_method_1_code (1 : Nat) (Option.none : Option Jvm.ClassFile.FieldType), Jvm.Cond.code ({ cls := "com/example/firmline/firmline/ProcessReplay$Span", name := "steps", desc := "()I" } : Jvm.MethodName) prog_82_method_2_code (1 : Nat) (Option.some Jvm.ClassFile.FieldType.int)]
set_option maxRecDepth 65536 in
theorem codes_eq : words1.filter isCode = codes1 := rfl
theorem w_codes : ∀ c ∈ words1.filter isCode, c.before args0 about1 = true := by
  rw [codes_eq]
  intro c hc
  simp only [codes1, List.mem_cons, List.not_mem_nil, or_false] at hc
  rcases hc with rfl | rfl | rfl | rfl | rfl
  · exact w_c0
  · exact w_c1
  · exact w_c2
  · exact w_c3
  · exact w_c4
set_option maxRecDepth 65536 in
theorem w_t1 : (words1.take 24).all (fun c => isCode c || c.before args0 about1) = true := by decide +kernel
set_option maxRecDepth 65536 in
theorem w_t2 : (words1.drop 24).all (fun c => isCode c || c.before args0 about1) = true := by decide +kernel
theorem w_tables : (allAtoms (Jvm.Cond.code x code maxLocals ret :: tables_1)).before args0 about1 = true := by
  rw [allAtoms_all]
  show words1.all (fun c => c.before args0 about1) = true
  refine all_split ?_ w_codes
  rw [← List.take_append_drop 24 words1, List.all_append, w_t1, w_t2]
  rfl
set_option maxRecDepth 65536 in
theorem w_case : (Jvm.Cond.and given_1 narrow_1).before args0 about1 = true := by decide +kernel
theorem w_applies : (headSpec (Jvm.Cond.code x code maxLocals ret :: tables_1) room_1).applies x e0.platform about1 = true :=
  (Spec.applies_iff w_frames).mpr ⟨w_running, w_runnable, w_alone, w_named, w_hears, w_ripe, w_room, w_tables⟩
theorem atStart : AtStart classFile x code maxLocals ret World_1 tables_1 room_1 Calls_1 rest_1 Pre_1 launch0 p0 e0 about1 theMethod args0 below0 :=
  ⟨lists_1, trivial, launch0.admits_env _ _ _, launch0.least_env, fairChoices_fair.cas, fairChoices_fair.clock, w_frames, w_args, w_heap, w_applies, trivial, trivial, w_case⟩
end start1
theorem witness_1 : WitnessClaimed_1 := ⟨start1.p0, start1.e0, start1.about1, start1.theMethod, start1.args0, start1.below0, start1.atStart⟩
end Jvm.Pilot.@@N@@
