import JvmDerived
import JvmDerived.Pilot.@@N@@Statement
import JvmDerived.Pilot.@@N@@Code
set_option linter.unusedVariables false
set_option linter.unusedSimpArgs false
namespace Jvm.Pilot.@@N@@
open Jvm Jvm.ClassFile Sem Op Lib Jvm.Free Jvm.Stand Jvm.LawKit Jvm.RoadKit Bundle Jvm.Pilot.@@N@@.Jvm.D
def own_bi (P : Prop) [Decidable P] : Int32 := if P then 1 else 0
theorem own_bi_t {P : Prop} [Decidable P] (h : P) : own_bi P = 1 := if_pos h
theorem own_bi_f {P : Prop} [Decidable P] (h : ¬ P) : own_bi P = 0 := if_neg h
theorem own_bi_01 (P : Prop) [Decidable P] : own_bi P = 0 ∨ own_bi P = 1 := by by_cases h : P <;> simp [own_bi, h]
theorem own_bi_eq {P Q : Prop} [Decidable P] [Decidable Q] (h : P ↔ Q) : own_bi P = own_bi Q := by by_cases q : P <;> simp [own_bi, q, ← h]
theorem own_bi_iff (P : Prop) [Decidable P] : own_bi P = 1 ↔ P := by by_cases q : P <;> simp [own_bi, q]
theorem own_bi_ne (P : Prop) [Decidable P] : own_bi P = 0 ↔ ¬ P := by by_cases q : P <;> simp [own_bi, q]
theorem own_ofNat {n : Nat} (h : n < 2147483648) : (Int32.ofNat n).toInt = (n : Int) := len_toInt h
theorem own_narZ {z : Int32} (h : z = 0 ∨ z = 1) : narrow .boolean (.int z) = .int z := by rcases h with rfl | rfl <;> rfl
theorem own_max (x : Int64) : ¬ (9223372036854775807 : Int64) < x := by
  rw [Int64.lt_iff_toInt_lt]
  have h := (rng64 x).2
  have e : (9223372036854775807 : Int64).toInt = 9223372036854775807 := rfl
  omega
theorem own_contra {a b c d : Int64} (h1 : ¬ b < a) (h2 : ¬ d < c) (h3 : ¬ own_bi (b < c) = 0) : own_bi (d < a) = 0 := by
  refine own_bi_f fun h4 => ?_
  rw [own_bi_ne, Classical.not_not] at h3
  rw [Int64.lt_iff_toInt_lt] at *
  omega
theorem pn_2 : plainName "java/lang/Record" = true := by first | (simp [plainName, overriddenIn]; done) | decide +kernel
theorem d2_0 : decode jdk_30_method_1_code 0 = .ok (.aload_n 0, 1) := by decide +kernel
theorem d2_1 : decode jdk_30_method_1_code 1 = .ok (.invokespecial 1, 3) := by decide +kernel
theorem d2_4 : decode jdk_30_method_1_code 4 = .ok (.return_, 1) := by decide +kernel
theorem ef_2 (m : MethodId) (a1 : Addr) : entryFrame m #[(.ref a1)] 1 = mkF m 0 #[.val (.ref a1)] [] := by first | (simp [entryFrame, mkF, argsToLocals, Value.category]; done) | rfl
def Q2 (Z : State) (a1 : Addr) (h0 : Heap) (n0 : Nat) (v : Option Value) (h : Heap) (L : List Loc) : Prop := v = none ∧ Fr n0 L ∧ h = h0
set_option maxRecDepth 65536 in
set_option maxHeartbeats 40000000 in
theorem rm2 (l : Launch) (Z : State) (a0 : Array Value) (hw : ∀ d ∈ tables_1, d.before a0 Z = true) (ws : List Jvm.Cond) (a1 : Addr) (h0 : Heap) (n0 : Nat) (Z0 : n0 ≤ h0.size) :
    MetFree l (⟨"java/lang/Record", "<init>", "()V"⟩ : MethodName) (head1 (Jvm.Cond.code (⟨"java/lang/Record", "<init>", "()V"⟩ : MethodName) jdk_30_method_1_code 1 none :: ws) ({ frames := 1, cells := 0, slots := 0, locals := 12 } : Room)) (fun a U => a = #[(.ref a1)] ∧ Z.Warmed39 U.vm ∧ U.heap = h0) (fun _ _ _ _ _ => True) (fun _ U o U' => ∃ v L, o = .returned v ∧ Q2 Z a1 h0 n0 v U'.heap L ∧ FrameEnd U o U' L ({ frames := 1, cells := 0, slots := 0, locals := 12 } : Room).cells ({ frames := 1, cells := 0, slots := 0, locals := 12 } : Room).slots) := by
  refine MetFree.of_bodySF (plainFor_of_name pn_2) hisR ?_
  intro p e s m args below meth c s₁ Bd hml0 hP hK
  obtain ⟨rfl, hZ, hh⟩ := hP
  have hx := Bd.exec
  have hby := Bd.bytes
  have hml : c.maxLocals = 1 := hml0
  have hown : s.vm.findClass "java/lang/Record" = some m.cls := findClass_of_methodNamed Bd.named
  have hnm := (name_of_methodNamed Bd.named Bd.method).1
  have X0 : Stand p l e ({ frames := 1, cells := 0, slots := 0, locals := 12 } : Room) s m #[(.ref a1)] below meth c s₁ [] 0 0 := Stand.of_body Bd
  have e0 : s₁.heap = h0 := by rw [← hh, Bd.state]; rfl
  have N0 := Fr.nil n0
  have pre0 : ∀ t, Steps p.tables e below (s₁.setTop (mkF m 0 #[.val (.ref a1)] [])) t → Steps p.tables e below (s₁.setTop (entryFrame m #[(.ref a1)] 1)) t := fun t k => castTop (ef_2 m a1) k
  have pre1 : ∀ t, Steps p.tables e below (s₁.setTop (mkF m 1 #[.val (.ref a1)] [(.ref a1)])) t → Steps p.tables e below (s₁.setTop (entryFrame m #[(.ref a1)] 1)) t := by
    intro t k
    refine pre0 t ?_
    refine XS.aloadN X0.here hx rfl (hb hby d2_0) rfl rfl ?_
    show Steps p.tables e below (s₁.setTop (mkF m 1 #[.val (.ref a1)] [(.ref a1)])) _
    exact k
  obtain ⟨T2, X2, e2, st2⟩ := initO X0 hx hZ hown (hw _ (List.mem_of_getElem? (i := 11) rfl)) (hw _ (List.mem_of_getElem? (i := 12) rfl)) (hw _ (List.mem_of_getElem? (i := 13) rfl)) e0 (g := (mkF m 1 #[.val (.ref a1)] [(.ref a1)])) rfl (by rw [hml]; rfl) rfl (hb hby d2_1) (by decide) (W := 0) (by show 2 * 0 + _ ≤ _; exact Nat.le_of_eq rfl) (by decide)
  have pre3 : ∀ t, Steps p.tables e below (T2.setTop (mkF m 4 #[.val (.ref a1)] [])) t → Steps p.tables e below (s₁.setTop (entryFrame m #[(.ref a1)] 1)) t := fun t k => pre1 t (st2 t k)
  obtain ⟨fs, hr, hrun, hended, hW, hsame⟩ := X2.leave (v := none) (fun _ => rfl)
  refine ⟨_, _, pre3 _ ?_, hrun, hended, _, _, rfl, ?_, ⟨_, rfl⟩, hW, hsame.mono (by decide) (by decide)⟩
  · exact X2.returnOut hx Bd.returns (hb hby d2_4) hr
  · show Q2 Z a1 h0 n0 _ T2.heap _
    rw [e2]
    exact ⟨rfl, N0, rfl⟩
theorem pd_sup1 : parseMethodDescriptor "()V" = some ⟨[], none⟩ := by decide +kernel
theorem pn_1 : plainName "com/example/firmline/firmline/Call" = true := by first | (simp [plainName, overriddenIn]; done) | decide +kernel
theorem d1_0 : decode prog_21_method_1_code 0 = .ok (.aload_n 0, 1) := by decide +kernel
theorem d1_1 : decode prog_21_method_1_code 1 = .ok (.invokespecial 3, 3) := by decide +kernel
theorem d1_4 : decode prog_21_method_1_code 4 = .ok (.aload_n 0, 1) := by decide +kernel
theorem d1_5 : decode prog_21_method_1_code 5 = .ok (.iload_n 1, 1) := by decide +kernel
theorem d1_6 : decode prog_21_method_1_code 6 = .ok (.putfield 9, 3) := by decide +kernel
theorem d1_9 : decode prog_21_method_1_code 9 = .ok (.aload_n 0, 1) := by decide +kernel
theorem d1_10 : decode prog_21_method_1_code 10 = .ok (.aload_n 2, 1) := by decide +kernel
theorem d1_11 : decode prog_21_method_1_code 11 = .ok (.putfield 15, 3) := by decide +kernel
theorem d1_14 : decode prog_21_method_1_code 14 = .ok (.aload_n 0, 1) := by decide +kernel
theorem d1_15 : decode prog_21_method_1_code 15 = .ok (.aload_n 3, 1) := by decide +kernel
theorem d1_16 : decode prog_21_method_1_code 16 = .ok (.putfield 19, 3) := by decide +kernel
theorem d1_19 : decode prog_21_method_1_code 19 = .ok (.aload_n 0, 1) := by decide +kernel
theorem d1_20 : decode prog_21_method_1_code 20 = .ok (.lload 4, 2) := by decide +kernel
theorem d1_22 : decode prog_21_method_1_code 22 = .ok (.putfield 23, 3) := by decide +kernel
theorem d1_25 : decode prog_21_method_1_code 25 = .ok (.aload_n 0, 1) := by decide +kernel
theorem d1_26 : decode prog_21_method_1_code 26 = .ok (.lload 6, 2) := by decide +kernel
theorem d1_28 : decode prog_21_method_1_code 28 = .ok (.putfield 27, 3) := by decide +kernel
theorem d1_31 : decode prog_21_method_1_code 31 = .ok (.return_, 1) := by decide +kernel
theorem ef_1 (m : MethodId) (a1 : Addr) (p1 : Int32) (p4 : Int64) (p5 : Int64) : entryFrame m #[(.ref a1), (.int p1), .null, .null, (.long p4), (.long p5)] 8 = mkF m 0 #[.val (.ref a1), .val (.int p1), .val .null, .val .null, .val (.long p4), .second, .val (.long p5), .second] [] := by first | (simp [entryFrame, mkF, argsToLocals, Value.category]; done) | rfl
def Q1 (Z : State) (a1 : Addr) (p1 : Int32) (p4 : Int64) (p5 : Int64) (h0 : Heap) (n0 : Nat) (v : Option Value) (h : Heap) (L : List Loc) : Prop := v = none ∧ Fr n0 L ∧ Keep h0 h [a1] ∧ Fld Z h a1 "com/example/firmline/firmline/Call" "process" "I" (.int p1) ∧ Fld Z h a1 "com/example/firmline/firmline/Call" "operation" "Lcom/example/firmline/firmline/Operation;" .null ∧ Fld Z h a1 "com/example/firmline/firmline/Call" "response" "Ljava/lang/Object;" .null ∧ Fld Z h a1 "com/example/firmline/firmline/Call" "invoked" "J" (.long p4) ∧ Fld Z h a1 "com/example/firmline/firmline/Call" "responded" "J" (.long p5)
set_option maxRecDepth 65536 in
set_option maxHeartbeats 40000000 in
theorem rm1 (l : Launch) (Z : State) (a0 : Array Value) (hw : ∀ d ∈ tables_1, d.before a0 Z = true) (ws : List Jvm.Cond) (a1 : Addr) (p1 : Int32) (p4 : Int64) (p5 : Int64) (h0 : Heap) (n0 : Nat) (Z0 : n0 ≤ h0.size) (E1 : Exa Z h0 a1 "com/example/firmline/firmline/Call") (ga1 : n0 ≤ a1) (Fd0 : Fld Z h0 a1 "com/example/firmline/firmline/Call" "process" "I" (.int (0 : Int32))) (Fd1 : Fld Z h0 a1 "com/example/firmline/firmline/Call" "operation" "Lcom/example/firmline/firmline/Operation;" .null) (Fd2 : Fld Z h0 a1 "com/example/firmline/firmline/Call" "response" "Ljava/lang/Object;" .null) (Fd3 : Fld Z h0 a1 "com/example/firmline/firmline/Call" "invoked" "J" (.long (0 : Int64))) (Fd4 : Fld Z h0 a1 "com/example/firmline/firmline/Call" "responded" "J" (.long (0 : Int64))) :
    MetFree l (⟨"com/example/firmline/firmline/Call", "<init>", "(ILcom/example/firmline/firmline/Operation;Ljava/lang/Object;JJ)V"⟩ : MethodName) (head1 (Jvm.Cond.code (⟨"com/example/firmline/firmline/Call", "<init>", "(ILcom/example/firmline/firmline/Operation;Ljava/lang/Object;JJ)V"⟩ : MethodName) prog_21_method_1_code 8 none :: ws) ({ frames := 2, cells := 0, slots := 0, locals := 24 } : Room)) (fun a U => a = #[(.ref a1), (.int p1), .null, .null, (.long p4), (.long p5)] ∧ Z.Warmed39 U.vm ∧ U.heap = h0) (fun _ _ _ _ _ => True) (fun _ U o U' => ∃ v L, o = .returned v ∧ Q1 Z a1 p1 p4 p5 h0 n0 v U'.heap L ∧ FrameEnd U o U' L ({ frames := 2, cells := 0, slots := 0, locals := 24 } : Room).cells ({ frames := 2, cells := 0, slots := 0, locals := 24 } : Room).slots) := by
  refine MetFree.of_bodySF (plainFor_of_name pn_1) hisR ?_
  intro p e s m args below meth c s₁ Bd hml0 hP hK
  obtain ⟨rfl, hZ, hh⟩ := hP
  have hx := Bd.exec
  have hby := Bd.bytes
  have hml : c.maxLocals = 8 := hml0
  have hown : s.vm.findClass "com/example/firmline/firmline/Call" = some m.cls := findClass_of_methodNamed Bd.named
  have hnm := (name_of_methodNamed Bd.named Bd.method).1
  have X0 : Stand p l e ({ frames := 2, cells := 0, slots := 0, locals := 24 } : Room) s m #[(.ref a1), (.int p1), .null, .null, (.long p4), (.long p5)] below meth c s₁ [] 0 0 := Stand.of_body Bd
  have e0 : s₁.heap = h0 := by rw [← hh, Bd.state]; rfl
  have N0 := Fr.nil n0
  have pre0 : ∀ t, Steps p.tables e below (s₁.setTop (mkF m 0 #[.val (.ref a1), .val (.int p1), .val .null, .val .null, .val (.long p4), .second, .val (.long p5), .second] [])) t → Steps p.tables e below (s₁.setTop (entryFrame m #[(.ref a1), (.int p1), .null, .null, (.long p4), (.long p5)] 8)) t := fun t k => castTop (ef_1 m a1 p1 p4 p5) k
  have pre2 : ∀ t, Steps p.tables e below (s₁.setTop (mkF m 1 #[.val (.ref a1), .val (.int p1), .val .null, .val .null, .val (.long p4), .second, .val (.long p5), .second] [(.ref a1)])) t → Steps p.tables e below (s₁.setTop (entryFrame m #[(.ref a1), (.int p1), .null, .null, (.long p4), (.long p5)] 8)) t := by
    intro t k
    refine pre0 t ?_
    refine XS.aloadN X0.here hx rfl (hb hby d1_0) rfl rfl ?_
    show Steps p.tables e below (s₁.setTop (mkF m 1 #[.val (.ref a1), .val (.int p1), .val .null, .val .null, .val (.long p4), .second, .val (.long p5), .second] [(.ref a1)])) _
    exact k
  have K1 : Keep h0 h0 [a1] := (Keep.refl h0 [a1])
  obtain ⟨_, _, ⟨T3, L3, k3, n3⟩, -, X3, ⟨Lc3, hQ3, l3, y3, z3⟩, st3⟩ := X0.specialBack hx (y := (⟨"java/lang/Record", "<init>", "()V"⟩ : MethodName)) rfl hown (mvT hZ (hw _ (List.mem_of_getElem? (i := 6) rfl))) (mvT hZ (hw _ (List.mem_of_getElem? (i := 7) rfl))) (mvT hZ (hw _ (List.mem_of_getElem? (i := 10) rfl))) (by decide) (backOf (W := 0) (rm2 l Z a0 hw [] a1 h0 n0 Z0) hZ (hw _ (List.mem_of_getElem? (i := 10) rfl)) (hw _ (List.mem_of_getElem? (i := 9) rfl)) (by decide) (by decide)) (g := (mkF m 1 #[.val (.ref a1), .val (.int p1), .val .null, .val .null, .val (.long p4), .second, .val (.long p5), .second] [(.ref a1)])) rfl (by rw [hml]; rfl) (Steps.refl _) (a := a1) (argsL := []) (rest := []) (lenOf pd_sup1 rfl) rfl (by show 2 * 0 + _ ≤ _; exact Nat.le_of_eq rfl) (hb hby d1_1) (fun _ _ => ⟨rfl, e0, (by decide : 0 + 0 ≤ _), (by decide : 0 + 0 ≤ _)⟩)
  dsimp only [Pt.U, Pt.locs, Pt.cells, Pt.slots] at X3 l3 y3 z3 st3 hQ3
  subst l3 y3 z3
  obtain ⟨rfl, Nq3, heq3⟩ := hQ3
  have N3 := Fr.app N0 Nq3
  have pre4 : ∀ t, Steps p.tables e below (T3.setTop (mkF m 4 #[.val (.ref a1), .val (.int p1), .val .null, .val .null, .val (.long p4), .second, .val (.long p5), .second] [])) t → Steps p.tables e below (s₁.setTop (entryFrame m #[(.ref a1), (.int p1), .null, .null, (.long p4), (.long p5)] 8)) t := fun t k => pre2 t (st3.trans k)
  have pre6 : ∀ t, Steps p.tables e below (T3.setTop (mkF m 6 #[.val (.ref a1), .val (.int p1), .val .null, .val .null, .val (.long p4), .second, .val (.long p5), .second] [(.int p1), (.ref a1)])) t → Steps p.tables e below (s₁.setTop (entryFrame m #[(.ref a1), (.int p1), .null, .null, (.long p4), (.long p5)] 8)) t := by
    intro t k
    refine pre4 t ?_
    refine XS.aloadN X3.here hx rfl (hb hby d1_4) rfl rfl ?_
    show Steps p.tables e below (T3.setTop (mkF m 5 #[.val (.ref a1), .val (.int p1), .val .null, .val .null, .val (.long p4), .second, .val (.long p5), .second] [(.ref a1)])) _
    refine XS.iloadN X3.here hx rfl (hb hby d1_5) rfl ?_
    show Steps p.tables e below (T3.setTop (mkF m 6 #[.val (.ref a1), .val (.int p1), .val .null, .val .null, .val (.long p4), .second, .val (.long p5), .second] [(.int p1), (.ref a1)])) _
    exact k
  obtain ⟨T7, h7, X7, e7, W7, st7⟩ := putF X3 hx hZ hown (host := "") (Or.inl (hw _ (List.mem_of_getElem? (i := 14) rfl))) Via.refl heq3 Fd0 E1 (Or.inr ⟨(hw _ (List.mem_of_getElem? (i := 15) rfl)), rfl, hnm⟩) (hw _ (List.mem_of_getElem? (i := 1) rfl)) (ty := .int) (by decide) rfl rfl (g := (mkF m 6 #[.val (.ref a1), .val (.int p1), .val .null, .val .null, .val (.long p4), .second, .val (.long p5), .second] [(.int p1), (.ref a1)])) rfl rfl (hb hby d1_6)
  have N7 := Fr.snoc X7 N3 ga1
  have pre8 : ∀ t, Steps p.tables e below (T7.setTop (mkF m 9 #[.val (.ref a1), .val (.int p1), .val .null, .val .null, .val (.long p4), .second, .val (.long p5), .second] [])) t → Steps p.tables e below (s₁.setTop (entryFrame m #[(.ref a1), (.int p1), .null, .null, (.long p4), (.long p5)] 8)) t := fun t k => pre6 t (st7 t k)
  have F9_0 : Fld Z h7 a1 "com/example/firmline/firmline/Call" "process" "I" (.int p1) := (Fd0.same W7)
  have F9_1 : Fld Z h7 a1 "com/example/firmline/firmline/Call" "operation" "Lcom/example/firmline/firmline/Operation;" .null := (Fd1.other W7 (Or.inr (slot_ne (Or.inr (hw _ (List.mem_of_getElem? (i := 17) rfl))) (Or.inr (hw _ (List.mem_of_getElem? (i := 15) rfl))) (by decide) (t := (.object "com/example/firmline/firmline/Operation")) (t' := .int) (by decide) (by decide))))
  have F9_2 : Fld Z h7 a1 "com/example/firmline/firmline/Call" "response" "Ljava/lang/Object;" .null := (Fd2.other W7 (Or.inr (slot_ne (Or.inr (hw _ (List.mem_of_getElem? (i := 19) rfl))) (Or.inr (hw _ (List.mem_of_getElem? (i := 15) rfl))) (by decide) (t := (.object "java/lang/Object")) (t' := .int) (by decide) (by decide))))
  have F9_3 : Fld Z h7 a1 "com/example/firmline/firmline/Call" "invoked" "J" (.long (0 : Int64)) := (Fd3.other W7 (Or.inr (slot_ne (Or.inr (hw _ (List.mem_of_getElem? (i := 21) rfl))) (Or.inr (hw _ (List.mem_of_getElem? (i := 15) rfl))) (by decide) (t := .long) (t' := .int) (by decide) (by decide))))
  have F9_4 : Fld Z h7 a1 "com/example/firmline/firmline/Call" "responded" "J" (.long (0 : Int64)) := (Fd4.other W7 (Or.inr (slot_ne (Or.inr (hw _ (List.mem_of_getElem? (i := 23) rfl))) (Or.inr (hw _ (List.mem_of_getElem? (i := 15) rfl))) (by decide) (t := .long) (t' := .int) (by decide) (by decide))))
  have E9_0 : Exa Z h7 a1 "com/example/firmline/firmline/Call" := (E1.wr W7)
  have K9 : Keep h0 h7 [a1] := (K1.wr W7 (Or.inl (List.mem_of_getElem? (i := 0) rfl)))
  have Z9 : n0 ≤ h7.size := (Nat.le_trans Z0 (Nat.le_of_eq W7.size.symm))
  have pre11 : ∀ t, Steps p.tables e below (T7.setTop (mkF m 11 #[.val (.ref a1), .val (.int p1), .val .null, .val .null, .val (.long p4), .second, .val (.long p5), .second] [.null, (.ref a1)])) t → Steps p.tables e below (s₁.setTop (entryFrame m #[(.ref a1), (.int p1), .null, .null, (.long p4), (.long p5)] 8)) t := by
    intro t k
    refine pre8 t ?_
    refine XS.aloadN X7.here hx rfl (hb hby d1_9) rfl rfl ?_
    show Steps p.tables e below (T7.setTop (mkF m 10 #[.val (.ref a1), .val (.int p1), .val .null, .val .null, .val (.long p4), .second, .val (.long p5), .second] [(.ref a1)])) _
    refine XS.aloadN X7.here hx rfl (hb hby d1_10) rfl rfl ?_
    show Steps p.tables e below (T7.setTop (mkF m 11 #[.val (.ref a1), .val (.int p1), .val .null, .val .null, .val (.long p4), .second, .val (.long p5), .second] [.null, (.ref a1)])) _
    exact k
  obtain ⟨T12, h12, X12, e12, W12, st12⟩ := putF X7 hx hZ hown (host := "") (Or.inl (hw _ (List.mem_of_getElem? (i := 16) rfl))) Via.refl e7 F9_1 E9_0 (Or.inr ⟨(hw _ (List.mem_of_getElem? (i := 17) rfl)), rfl, hnm⟩) (hw _ (List.mem_of_getElem? (i := 1) rfl)) (ty := (.object "com/example/firmline/firmline/Operation")) (by decide) rfl rfl (g := (mkF m 11 #[.val (.ref a1), .val (.int p1), .val .null, .val .null, .val (.long p4), .second, .val (.long p5), .second] [.null, (.ref a1)])) rfl rfl (hb hby d1_11)
  have N12 := Fr.snoc X12 N7 ga1
  have pre13 : ∀ t, Steps p.tables e below (T12.setTop (mkF m 14 #[.val (.ref a1), .val (.int p1), .val .null, .val .null, .val (.long p4), .second, .val (.long p5), .second] [])) t → Steps p.tables e below (s₁.setTop (entryFrame m #[(.ref a1), (.int p1), .null, .null, (.long p4), (.long p5)] 8)) t := fun t k => pre11 t (st12 t k)
  have F14_0 : Fld Z h12 a1 "com/example/firmline/firmline/Call" "process" "I" (.int p1) := (F9_0.other W12 (Or.inr (slot_ne (Or.inr (hw _ (List.mem_of_getElem? (i := 15) rfl))) (Or.inr (hw _ (List.mem_of_getElem? (i := 17) rfl))) (by decide) (t := .int) (t' := (.object "com/example/firmline/firmline/Operation")) (by decide) (by decide))))
  have F14_1 : Fld Z h12 a1 "com/example/firmline/firmline/Call" "operation" "Lcom/example/firmline/firmline/Operation;" .null := (F9_1.same W12)
  have F14_2 : Fld Z h12 a1 "com/example/firmline/firmline/Call" "response" "Ljava/lang/Object;" .null := (F9_2.other W12 (Or.inr (slot_ne (Or.inr (hw _ (List.mem_of_getElem? (i := 19) rfl))) (Or.inr (hw _ (List.mem_of_getElem? (i := 17) rfl))) (by decide) (t := (.object "java/lang/Object")) (t' := (.object "com/example/firmline/firmline/Operation")) (by decide) (by decide))))
  have F14_3 : Fld Z h12 a1 "com/example/firmline/firmline/Call" "invoked" "J" (.long (0 : Int64)) := (F9_3.other W12 (Or.inr (slot_ne (Or.inr (hw _ (List.mem_of_getElem? (i := 21) rfl))) (Or.inr (hw _ (List.mem_of_getElem? (i := 17) rfl))) (by decide) (t := .long) (t' := (.object "com/example/firmline/firmline/Operation")) (by decide) (by decide))))
  have F14_4 : Fld Z h12 a1 "com/example/firmline/firmline/Call" "responded" "J" (.long (0 : Int64)) := (F9_4.other W12 (Or.inr (slot_ne (Or.inr (hw _ (List.mem_of_getElem? (i := 23) rfl))) (Or.inr (hw _ (List.mem_of_getElem? (i := 17) rfl))) (by decide) (t := .long) (t' := (.object "com/example/firmline/firmline/Operation")) (by decide) (by decide))))
  have E14_0 : Exa Z h12 a1 "com/example/firmline/firmline/Call" := (E9_0.wr W12)
  have K14 : Keep h0 h12 [a1] := (K9.wr W12 (Or.inl (List.mem_of_getElem? (i := 0) rfl)))
  have Z14 : n0 ≤ h12.size := (Nat.le_trans Z9 (Nat.le_of_eq W12.size.symm))
  have pre16 : ∀ t, Steps p.tables e below (T12.setTop (mkF m 16 #[.val (.ref a1), .val (.int p1), .val .null, .val .null, .val (.long p4), .second, .val (.long p5), .second] [.null, (.ref a1)])) t → Steps p.tables e below (s₁.setTop (entryFrame m #[(.ref a1), (.int p1), .null, .null, (.long p4), (.long p5)] 8)) t := by
    intro t k
    refine pre13 t ?_
    refine XS.aloadN X12.here hx rfl (hb hby d1_14) rfl rfl ?_
    show Steps p.tables e below (T12.setTop (mkF m 15 #[.val (.ref a1), .val (.int p1), .val .null, .val .null, .val (.long p4), .second, .val (.long p5), .second] [(.ref a1)])) _
    refine XS.aloadN X12.here hx rfl (hb hby d1_15) rfl rfl ?_
    show Steps p.tables e below (T12.setTop (mkF m 16 #[.val (.ref a1), .val (.int p1), .val .null, .val .null, .val (.long p4), .second, .val (.long p5), .second] [.null, (.ref a1)])) _
    exact k
  obtain ⟨T17, h17, X17, e17, W17, st17⟩ := putF X12 hx hZ hown (host := "") (Or.inl (hw _ (List.mem_of_getElem? (i := 18) rfl))) Via.refl e12 F14_2 E14_0 (Or.inr ⟨(hw _ (List.mem_of_getElem? (i := 19) rfl)), rfl, hnm⟩) (hw _ (List.mem_of_getElem? (i := 1) rfl)) (ty := (.object "java/lang/Object")) (by decide) rfl rfl (g := (mkF m 16 #[.val (.ref a1), .val (.int p1), .val .null, .val .null, .val (.long p4), .second, .val (.long p5), .second] [.null, (.ref a1)])) rfl rfl (hb hby d1_16)
  have N17 := Fr.snoc X17 N12 ga1
  have pre18 : ∀ t, Steps p.tables e below (T17.setTop (mkF m 19 #[.val (.ref a1), .val (.int p1), .val .null, .val .null, .val (.long p4), .second, .val (.long p5), .second] [])) t → Steps p.tables e below (s₁.setTop (entryFrame m #[(.ref a1), (.int p1), .null, .null, (.long p4), (.long p5)] 8)) t := fun t k => pre16 t (st17 t k)
  have F19_0 : Fld Z h17 a1 "com/example/firmline/firmline/Call" "process" "I" (.int p1) := (F14_0.other W17 (Or.inr (slot_ne (Or.inr (hw _ (List.mem_of_getElem? (i := 15) rfl))) (Or.inr (hw _ (List.mem_of_getElem? (i := 19) rfl))) (by decide) (t := .int) (t' := (.object "java/lang/Object")) (by decide) (by decide))))
  have F19_1 : Fld Z h17 a1 "com/example/firmline/firmline/Call" "operation" "Lcom/example/firmline/firmline/Operation;" .null := (F14_1.other W17 (Or.inr (slot_ne (Or.inr (hw _ (List.mem_of_getElem? (i := 17) rfl))) (Or.inr (hw _ (List.mem_of_getElem? (i := 19) rfl))) (by decide) (t := (.object "com/example/firmline/firmline/Operation")) (t' := (.object "java/lang/Object")) (by decide) (by decide))))
  have F19_2 : Fld Z h17 a1 "com/example/firmline/firmline/Call" "response" "Ljava/lang/Object;" .null := (F14_2.same W17)
  have F19_3 : Fld Z h17 a1 "com/example/firmline/firmline/Call" "invoked" "J" (.long (0 : Int64)) := (F14_3.other W17 (Or.inr (slot_ne (Or.inr (hw _ (List.mem_of_getElem? (i := 21) rfl))) (Or.inr (hw _ (List.mem_of_getElem? (i := 19) rfl))) (by decide) (t := .long) (t' := (.object "java/lang/Object")) (by decide) (by decide))))
  have F19_4 : Fld Z h17 a1 "com/example/firmline/firmline/Call" "responded" "J" (.long (0 : Int64)) := (F14_4.other W17 (Or.inr (slot_ne (Or.inr (hw _ (List.mem_of_getElem? (i := 23) rfl))) (Or.inr (hw _ (List.mem_of_getElem? (i := 19) rfl))) (by decide) (t := .long) (t' := (.object "java/lang/Object")) (by decide) (by decide))))
  have E19_0 : Exa Z h17 a1 "com/example/firmline/firmline/Call" := (E14_0.wr W17)
  have K19 : Keep h0 h17 [a1] := (K14.wr W17 (Or.inl (List.mem_of_getElem? (i := 0) rfl)))
  have Z19 : n0 ≤ h17.size := (Nat.le_trans Z14 (Nat.le_of_eq W17.size.symm))
  have pre21 : ∀ t, Steps p.tables e below (T17.setTop (mkF m 22 #[.val (.ref a1), .val (.int p1), .val .null, .val .null, .val (.long p4), .second, .val (.long p5), .second] [(.long p4), (.ref a1)])) t → Steps p.tables e below (s₁.setTop (entryFrame m #[(.ref a1), (.int p1), .null, .null, (.long p4), (.long p5)] 8)) t := by
    intro t k
    refine pre18 t ?_
    refine XS.aloadN X17.here hx rfl (hb hby d1_19) rfl rfl ?_
    show Steps p.tables e below (T17.setTop (mkF m 20 #[.val (.ref a1), .val (.int p1), .val .null, .val .null, .val (.long p4), .second, .val (.long p5), .second] [(.ref a1)])) _
    refine XT.lload X17.here hx rfl (hb hby d1_20) rfl ?_
    show Steps p.tables e below (T17.setTop (mkF m 22 #[.val (.ref a1), .val (.int p1), .val .null, .val .null, .val (.long p4), .second, .val (.long p5), .second] [(.long p4), (.ref a1)])) _
    exact k
  obtain ⟨T22, h22, X22, e22, W22, st22⟩ := putF X17 hx hZ hown (host := "") (Or.inl (hw _ (List.mem_of_getElem? (i := 20) rfl))) Via.refl e17 F19_3 E19_0 (Or.inr ⟨(hw _ (List.mem_of_getElem? (i := 21) rfl)), rfl, hnm⟩) (hw _ (List.mem_of_getElem? (i := 1) rfl)) (ty := .long) (by decide) rfl rfl (g := (mkF m 22 #[.val (.ref a1), .val (.int p1), .val .null, .val .null, .val (.long p4), .second, .val (.long p5), .second] [(.long p4), (.ref a1)])) rfl rfl (hb hby d1_22)
  have N22 := Fr.snoc X22 N17 ga1
  have pre23 : ∀ t, Steps p.tables e below (T22.setTop (mkF m 25 #[.val (.ref a1), .val (.int p1), .val .null, .val .null, .val (.long p4), .second, .val (.long p5), .second] [])) t → Steps p.tables e below (s₁.setTop (entryFrame m #[(.ref a1), (.int p1), .null, .null, (.long p4), (.long p5)] 8)) t := fun t k => pre21 t (st22 t k)
  have F24_0 : Fld Z h22 a1 "com/example/firmline/firmline/Call" "process" "I" (.int p1) := (F19_0.other W22 (Or.inr (slot_ne (Or.inr (hw _ (List.mem_of_getElem? (i := 15) rfl))) (Or.inr (hw _ (List.mem_of_getElem? (i := 21) rfl))) (by decide) (t := .int) (t' := .long) (by decide) (by decide))))
  have F24_1 : Fld Z h22 a1 "com/example/firmline/firmline/Call" "operation" "Lcom/example/firmline/firmline/Operation;" .null := (F19_1.other W22 (Or.inr (slot_ne (Or.inr (hw _ (List.mem_of_getElem? (i := 17) rfl))) (Or.inr (hw _ (List.mem_of_getElem? (i := 21) rfl))) (by decide) (t := (.object "com/example/firmline/firmline/Operation")) (t' := .long) (by decide) (by decide))))
  have F24_2 : Fld Z h22 a1 "com/example/firmline/firmline/Call" "response" "Ljava/lang/Object;" .null := (F19_2.other W22 (Or.inr (slot_ne (Or.inr (hw _ (List.mem_of_getElem? (i := 19) rfl))) (Or.inr (hw _ (List.mem_of_getElem? (i := 21) rfl))) (by decide) (t := (.object "java/lang/Object")) (t' := .long) (by decide) (by decide))))
  have F24_3 : Fld Z h22 a1 "com/example/firmline/firmline/Call" "invoked" "J" (.long p4) := (F19_3.same W22)
  have F24_4 : Fld Z h22 a1 "com/example/firmline/firmline/Call" "responded" "J" (.long (0 : Int64)) := (F19_4.other W22 (Or.inr (slot_ne (Or.inr (hw _ (List.mem_of_getElem? (i := 23) rfl))) (Or.inr (hw _ (List.mem_of_getElem? (i := 21) rfl))) (by decide) (t := .long) (t' := .long) (by decide) (by decide))))
  have E24_0 : Exa Z h22 a1 "com/example/firmline/firmline/Call" := (E19_0.wr W22)
  have K24 : Keep h0 h22 [a1] := (K19.wr W22 (Or.inl (List.mem_of_getElem? (i := 0) rfl)))
  have Z24 : n0 ≤ h22.size := (Nat.le_trans Z19 (Nat.le_of_eq W22.size.symm))
  have pre26 : ∀ t, Steps p.tables e below (T22.setTop (mkF m 28 #[.val (.ref a1), .val (.int p1), .val .null, .val .null, .val (.long p4), .second, .val (.long p5), .second] [(.long p5), (.ref a1)])) t → Steps p.tables e below (s₁.setTop (entryFrame m #[(.ref a1), (.int p1), .null, .null, (.long p4), (.long p5)] 8)) t := by
    intro t k
    refine pre23 t ?_
    refine XS.aloadN X22.here hx rfl (hb hby d1_25) rfl rfl ?_
    show Steps p.tables e below (T22.setTop (mkF m 26 #[.val (.ref a1), .val (.int p1), .val .null, .val .null, .val (.long p4), .second, .val (.long p5), .second] [(.ref a1)])) _
    refine XT.lload X22.here hx rfl (hb hby d1_26) rfl ?_
    show Steps p.tables e below (T22.setTop (mkF m 28 #[.val (.ref a1), .val (.int p1), .val .null, .val .null, .val (.long p4), .second, .val (.long p5), .second] [(.long p5), (.ref a1)])) _
    exact k
  obtain ⟨T27, h27, X27, e27, W27, st27⟩ := putF X22 hx hZ hown (host := "") (Or.inl (hw _ (List.mem_of_getElem? (i := 22) rfl))) Via.refl e22 F24_4 E24_0 (Or.inr ⟨(hw _ (List.mem_of_getElem? (i := 23) rfl)), rfl, hnm⟩) (hw _ (List.mem_of_getElem? (i := 1) rfl)) (ty := .long) (by decide) rfl rfl (g := (mkF m 28 #[.val (.ref a1), .val (.int p1), .val .null, .val .null, .val (.long p4), .second, .val (.long p5), .second] [(.long p5), (.ref a1)])) rfl rfl (hb hby d1_28)
  have N27 := Fr.snoc X27 N22 ga1
  have pre28 : ∀ t, Steps p.tables e below (T27.setTop (mkF m 31 #[.val (.ref a1), .val (.int p1), .val .null, .val .null, .val (.long p4), .second, .val (.long p5), .second] [])) t → Steps p.tables e below (s₁.setTop (entryFrame m #[(.ref a1), (.int p1), .null, .null, (.long p4), (.long p5)] 8)) t := fun t k => pre26 t (st27 t k)
  have F29_0 : Fld Z h27 a1 "com/example/firmline/firmline/Call" "process" "I" (.int p1) := (F24_0.other W27 (Or.inr (slot_ne (Or.inr (hw _ (List.mem_of_getElem? (i := 15) rfl))) (Or.inr (hw _ (List.mem_of_getElem? (i := 23) rfl))) (by decide) (t := .int) (t' := .long) (by decide) (by decide))))
  have F29_1 : Fld Z h27 a1 "com/example/firmline/firmline/Call" "operation" "Lcom/example/firmline/firmline/Operation;" .null := (F24_1.other W27 (Or.inr (slot_ne (Or.inr (hw _ (List.mem_of_getElem? (i := 17) rfl))) (Or.inr (hw _ (List.mem_of_getElem? (i := 23) rfl))) (by decide) (t := (.object "com/example/firmline/firmline/Operation")) (t' := .long) (by decide) (by decide))))
  have F29_2 : Fld Z h27 a1 "com/example/firmline/firmline/Call" "response" "Ljava/lang/Object;" .null := (F24_2.other W27 (Or.inr (slot_ne (Or.inr (hw _ (List.mem_of_getElem? (i := 19) rfl))) (Or.inr (hw _ (List.mem_of_getElem? (i := 23) rfl))) (by decide) (t := (.object "java/lang/Object")) (t' := .long) (by decide) (by decide))))
  have F29_3 : Fld Z h27 a1 "com/example/firmline/firmline/Call" "invoked" "J" (.long p4) := (F24_3.other W27 (Or.inr (slot_ne (Or.inr (hw _ (List.mem_of_getElem? (i := 21) rfl))) (Or.inr (hw _ (List.mem_of_getElem? (i := 23) rfl))) (by decide) (t := .long) (t' := .long) (by decide) (by decide))))
  have F29_4 : Fld Z h27 a1 "com/example/firmline/firmline/Call" "responded" "J" (.long p5) := (F24_4.same W27)
  have E29_0 : Exa Z h27 a1 "com/example/firmline/firmline/Call" := (E24_0.wr W27)
  have K29 : Keep h0 h27 [a1] := (K24.wr W27 (Or.inl (List.mem_of_getElem? (i := 0) rfl)))
  have Z29 : n0 ≤ h27.size := (Nat.le_trans Z24 (Nat.le_of_eq W27.size.symm))
  obtain ⟨fs, hr, hrun, hended, hW, hsame⟩ := X27.leave (v := none) (fun _ => rfl)
  refine ⟨_, _, pre28 _ ?_, hrun, hended, _, _, rfl, ?_, ⟨_, rfl⟩, hW, hsame.mono (by decide) (by decide)⟩
  · exact X27.returnOut hx Bd.returns (hb hby d1_31) hr
  · show Q1 Z a1 p1 p4 p5 h0 n0 _ T27.heap _
    rw [e27]
    exact ⟨rfl, N27, K29, F29_0, F29_1, F29_2, F29_3, F29_4⟩
theorem pd_iniC : parseMethodDescriptor "(ILcom/example/firmline/firmline/Operation;Ljava/lang/Object;JJ)V" = some ⟨[.int, (.object "com/example/firmline/firmline/Operation"), (.object "java/lang/Object"), .long, .long], none⟩ := by decide +kernel
theorem pn_4 : plainName "com/example/firmline/firmline/Call" = true := by first | (simp [plainName, overriddenIn]; done) | decide +kernel
theorem d4_0 : decode prog_21_method_2_code 0 = .ok (.new 10, 3) := by decide +kernel
theorem d4_3 : decode prog_21_method_2_code 3 = .ok (.dup, 1) := by decide +kernel
theorem d4_4 : decode prog_21_method_2_code 4 = .ok (.iload_n 0, 1) := by decide +kernel
theorem d4_5 : decode prog_21_method_2_code 5 = .ok (.aload_n 1, 1) := by decide +kernel
theorem d4_6 : decode prog_21_method_2_code 6 = .ok (.aconst_null, 1) := by decide +kernel
theorem d4_7 : decode prog_21_method_2_code 7 = .ok (.lload_n 2, 1) := by decide +kernel
theorem d4_8 : decode prog_21_method_2_code 8 = .ok (.ldc2_w 30, 3) := by decide +kernel
theorem d4_11 : decode prog_21_method_2_code 11 = .ok (.invokespecial 32, 3) := by decide +kernel
theorem d4_14 : decode prog_21_method_2_code 14 = .ok (.areturn, 1) := by decide +kernel
theorem ef_4 (m : MethodId) (p1 : Int32) (p3 : Int64) : entryFrame m #[(.int p1), .null, (.long p3)] 4 = mkF m 0 #[.val (.int p1), .val .null, .val (.long p3), .second] [] := by first | (simp [entryFrame, mkF, argsToLocals, Value.category]; done) | rfl
def Q4 (Z : State) (p1 : Int32) (p3 : Int64) (h0 : Heap) (n0 : Nat) (v : Option Value) (h : Heap) (L : List Loc) : Prop := ∃ b : Addr, v = some (.ref b) ∧ Fr n0 L ∧ Keep h0 h [] ∧ h0.size ≤ b ∧ Exa Z h b "com/example/firmline/firmline/Call" ∧ Fld Z h b "com/example/firmline/firmline/Call" "invoked" "J" (.long p3) ∧ Fld Z h b "com/example/firmline/firmline/Call" "responded" "J" (.long (9223372036854775807 : Int64))
set_option maxRecDepth 65536 in
set_option maxHeartbeats 40000000 in
theorem rm4 (l : Launch) (Z : State) (a0 : Array Value) (hw : ∀ d ∈ tables_1, d.before a0 Z = true) (ws : List Jvm.Cond) (p1 : Int32) (p3 : Int64) (h0 : Heap) (n0 : Nat) (Z0 : n0 ≤ h0.size) :
    MetFree l (⟨"com/example/firmline/firmline/Call", "pending", "(ILcom/example/firmline/firmline/Operation;J)Lcom/example/firmline/firmline/Call;"⟩ : MethodName) (head1 (Jvm.Cond.code (⟨"com/example/firmline/firmline/Call", "pending", "(ILcom/example/firmline/firmline/Operation;J)Lcom/example/firmline/firmline/Call;"⟩ : MethodName) prog_21_method_2_code 4 (some (.object "com/example/firmline/firmline/Call")) :: ws) ({ frames := 3, cells := 1, slots := 5, locals := 44 } : Room)) (fun a U => a = #[(.int p1), .null, (.long p3)] ∧ Z.Warmed39 U.vm ∧ U.heap = h0) (fun _ _ _ _ _ => True) (fun _ U o U' => ∃ v L, o = .returned v ∧ Q4 Z p1 p3 h0 n0 v U'.heap L ∧ FrameEnd U o U' L ({ frames := 3, cells := 1, slots := 5, locals := 44 } : Room).cells ({ frames := 3, cells := 1, slots := 5, locals := 44 } : Room).slots) := by
  refine MetFree.of_bodySF (plainFor_of_name pn_4) hisR ?_
  intro p e s m args below meth c s₁ Bd hml0 hP hK
  obtain ⟨rfl, hZ, hh⟩ := hP
  have hx := Bd.exec
  have hby := Bd.bytes
  have hml : c.maxLocals = 4 := hml0
  have hown : s.vm.findClass "com/example/firmline/firmline/Call" = some m.cls := findClass_of_methodNamed Bd.named
  have hnm := (name_of_methodNamed Bd.named Bd.method).1
  have X0 : Stand p l e ({ frames := 3, cells := 1, slots := 5, locals := 44 } : Room) s m #[(.int p1), .null, (.long p3)] below meth c s₁ [] 0 0 := Stand.of_body Bd
  have e0 : s₁.heap = h0 := by rw [← hh, Bd.state]; rfl
  have N0 := Fr.nil n0
  have pre0 : ∀ t, Steps p.tables e below (s₁.setTop (mkF m 0 #[.val (.int p1), .val .null, .val (.long p3), .second] [])) t → Steps p.tables e below (s₁.setTop (entryFrame m #[(.int p1), .null, (.long p3)] 4)) t := fun t k => castTop (ef_4 m p1 p3) k
  have K1 : Keep h0 h0 [] := (Keep.refl h0 [])
  obtain ⟨T2, h2, X2, e2, E2, A2, D2, -, st2⟩ := newO X0 hx hZ hown (hw _ (List.mem_of_getElem? (i := 27) rfl)) (hw _ (List.mem_of_getElem? (i := 1) rfl)) (hw _ (List.mem_of_getElem? (i := 2) rfl)) e0 (g := (mkF m 0 #[.val (.int p1), .val .null, .val (.long p3), .second] [])) rfl (hb hby d4_0) (by decide) (by decide)
  obtain ⟨b, gz2⟩ : ∃ z, z = h0.size := ⟨_, rfl⟩
  rw [← gz2] at A2 D2 st2
  have g_b : n0 ≤ b := Nat.le_trans Z0 (Nat.le_of_eq gz2.symm)
  have s_b : h0.size ≤ b := Nat.le_trans K1.1 (Nat.le_of_eq gz2.symm)
  have F_process_b : Fld Z h2 b "com/example/firmline/firmline/Call" "process" "I" (.int (0 : Int32)) := D2 (Or.inr (hw _ (List.mem_of_getElem? (i := 15) rfl))) (ty := .int) (by decide)
  have F_operation_b : Fld Z h2 b "com/example/firmline/firmline/Call" "operation" "Lcom/example/firmline/firmline/Operation;" .null := D2 (Or.inr (hw _ (List.mem_of_getElem? (i := 17) rfl))) (ty := (.object "com/example/firmline/firmline/Operation")) (by decide)
  have F_response_b : Fld Z h2 b "com/example/firmline/firmline/Call" "response" "Ljava/lang/Object;" .null := D2 (Or.inr (hw _ (List.mem_of_getElem? (i := 19) rfl))) (ty := (.object "java/lang/Object")) (by decide)
  have F_invoked_b : Fld Z h2 b "com/example/firmline/firmline/Call" "invoked" "J" (.long (0 : Int64)) := D2 (Or.inr (hw _ (List.mem_of_getElem? (i := 21) rfl))) (ty := .long) (by decide)
  have F_responded_b : Fld Z h2 b "com/example/firmline/firmline/Call" "responded" "J" (.long (0 : Int64)) := D2 (Or.inr (hw _ (List.mem_of_getElem? (i := 23) rfl))) (ty := .long) (by decide)
  have pre3 : ∀ t, Steps p.tables e below (T2.setTop (mkF m 3 #[.val (.int p1), .val .null, .val (.long p3), .second] [(.ref b)])) t → Steps p.tables e below (s₁.setTop (entryFrame m #[(.int p1), .null, (.long p3)] 4)) t := fun t k => pre0 t (st2 t k)
  have K4 : Keep h0 h2 [] := (K1.ext E2)
  have Z4 : n0 ≤ h2.size := (Nat.le_trans Z0 E2.1)
  have pre6 : ∀ t, Steps p.tables e below (T2.setTop (mkF m 11 #[.val (.int p1), .val .null, .val (.long p3), .second] [(.long (9223372036854775807 : Int64)), (.long p3), .null, .null, (.int p1), (.ref b), (.ref b)])) t → Steps p.tables e below (s₁.setTop (entryFrame m #[(.int p1), .null, (.long p3)] 4)) t := by
    intro t k
    refine pre3 t ?_
    refine XS.dup X2.here hx rfl (hb hby d4_3) rfl rfl ?_
    show Steps p.tables e below (T2.setTop (mkF m 4 #[.val (.int p1), .val .null, .val (.long p3), .second] [(.ref b), (.ref b)])) _
    refine XS.iloadN X2.here hx rfl (hb hby d4_4) rfl ?_
    show Steps p.tables e below (T2.setTop (mkF m 5 #[.val (.int p1), .val .null, .val (.long p3), .second] [(.int p1), (.ref b), (.ref b)])) _
    refine XS.aloadN X2.here hx rfl (hb hby d4_5) rfl rfl ?_
    show Steps p.tables e below (T2.setTop (mkF m 6 #[.val (.int p1), .val .null, .val (.long p3), .second] [.null, (.int p1), (.ref b), (.ref b)])) _
    refine XS.aconstNull X2.here hx rfl (hb hby d4_6) ?_
    show Steps p.tables e below (T2.setTop (mkF m 7 #[.val (.int p1), .val .null, .val (.long p3), .second] [.null, .null, (.int p1), (.ref b), (.ref b)])) _
    refine XT.lloadN X2.here hx rfl (hb hby d4_7) rfl ?_
    show Steps p.tables e below (T2.setTop (mkF m 8 #[.val (.int p1), .val .null, .val (.long p3), .second] [(.long p3), .null, .null, (.int p1), (.ref b), (.ref b)])) _
    refine Stand.ldc2J X2 hx hown (mvT hZ (hw _ (List.mem_of_getElem? (i := 28) rfl))) rfl (hb hby d4_8) ?_
    show Steps p.tables e below (T2.setTop (mkF m 11 #[.val (.int p1), .val .null, .val (.long p3), .second] [(.long (9223372036854775807 : Int64)), (.long p3), .null, .null, (.int p1), (.ref b), (.ref b)])) _
    exact k
  obtain ⟨_, _, ⟨T8, L8, k8, n8⟩, -, X8, ⟨Lc8, hQ8, l8, y8, z8⟩, st8⟩ := X2.specialBack hx (y := (⟨"com/example/firmline/firmline/Call", "<init>", "(ILcom/example/firmline/firmline/Operation;Ljava/lang/Object;JJ)V"⟩ : MethodName)) rfl hown (mvT hZ (hw _ (List.mem_of_getElem? (i := 29) rfl))) (mvT hZ (hw _ (List.mem_of_getElem? (i := 4) rfl))) (mvT hZ (hw _ (List.mem_of_getElem? (i := 5) rfl))) (by decide) (backOf (W := 1) (rm1 l Z a0 hw [] b p1 p3 (9223372036854775807 : Int64) h2 n0 Z4 A2 g_b  F_process_b F_operation_b F_response_b F_invoked_b F_responded_b) hZ (hw _ (List.mem_of_getElem? (i := 5) rfl)) (hw _ (List.mem_of_getElem? (i := 2) rfl)) (by decide) (by decide)) (g := (mkF m 11 #[.val (.int p1), .val .null, .val (.long p3), .second] [(.long (9223372036854775807 : Int64)), (.long p3), .null, .null, (.int p1), (.ref b), (.ref b)])) rfl (by rw [hml]; rfl) (Steps.refl _) (a := b) (argsL := [(.int p1), .null, .null, (.long p3), (.long (9223372036854775807 : Int64))]) (rest := [(.ref b)]) (lenOf pd_iniC rfl) rfl (by show 2 * 0 + _ ≤ _; exact Nat.le_of_eq rfl) (hb hby d4_11) (fun _ _ => ⟨rfl, e2, (by decide : 1 + 0 ≤ _), (by decide : 5 + 0 ≤ _)⟩)
  dsimp only [Pt.U, Pt.locs, Pt.cells, Pt.slots] at X8 l8 y8 z8 st8 hQ8
  subst l8 y8 z8
  obtain ⟨rfl, Nq8, Kq8, Fx0_8, Fx1_8, Fx2_8, Fx3_8, Fx4_8⟩ := hQ8
  have N8 := Fr.app N0 Nq8
  have pre9 : ∀ t, Steps p.tables e below (T8.setTop (mkF m 14 #[.val (.int p1), .val .null, .val (.long p3), .second] [(.ref b)])) t → Steps p.tables e below (s₁.setTop (entryFrame m #[(.int p1), .null, (.long p3)] 4)) t := fun t k => pre6 t (st8.trans k)
  obtain ⟨h8, e8⟩ : ∃ z, T8.heap = z := ⟨_, rfl⟩
  rw [e8] at Kq8 Fx0_8 Fx1_8 Fx2_8 Fx3_8 Fx4_8
  have E10_0 : Exa Z h8 b "com/example/firmline/firmline/Call" := (A2.keep Kq8)
  have K10 : Keep h0 h8 [] := (K4.trans Kq8 (allS (P := fun x => x ∈ [] ∨ h0.size ≤ x) (Or.inr s_b) all0))
  have Z10 : n0 ≤ h8.size := (Nat.le_trans Z4 Kq8.1)
  obtain ⟨fs, hr, hrun, hended, hW, hsame⟩ := X8.leave (v := some (.ref b)) (fun h => by rw [Bd.returns] at h; cases h)
  refine ⟨_, _, pre9 _ ?_, hrun, hended, _, _, rfl, ?_, ⟨_, rfl⟩, hW, hsame.mono (by decide) (by decide)⟩
  · exact retOut X8 hx Bd.returns rfl (Or.inr (Or.inr (Or.inr (Or.inr ⟨rfl, rfl, rfl⟩)))) (hb hby d4_14) hr
  · show Q4 Z p1 p3 h0 n0 _ T8.heap _
    rw [e8]
    exact ⟨b, rfl, N8, K10, s_b, E10_0, Fx3_8, Fx4_8⟩
theorem pn_5 : plainName "com/example/firmline/firmline/Call" = true := by first | (simp [plainName, overriddenIn]; done) | decide +kernel
theorem d5_0 : decode prog_21_method_4_code 0 = .ok (.aload_n 0, 1) := by decide +kernel
theorem d5_1 : decode prog_21_method_4_code 1 = .ok (.getfield 27, 3) := by decide +kernel
theorem d5_4 : decode prog_21_method_4_code 4 = .ok (.aload_n 1, 1) := by decide +kernel
theorem d5_5 : decode prog_21_method_4_code 5 = .ok (.getfield 23, 3) := by decide +kernel
theorem d5_8 : decode prog_21_method_4_code 8 = .ok (.lcmp, 1) := by decide +kernel
theorem d5_9 : decode prog_21_method_4_code 9 = .ok (.ifCond .ge 7, 3) := by decide +kernel
theorem d5_12 : decode prog_21_method_4_code 12 = .ok (.iconst 1, 1) := by decide +kernel
theorem d5_13 : decode prog_21_method_4_code 13 = .ok (.goto 4, 3) := by decide +kernel
theorem d5_16 : decode prog_21_method_4_code 16 = .ok (.iconst 0, 1) := by decide +kernel
theorem d5_17 : decode prog_21_method_4_code 17 = .ok (.ireturn, 1) := by decide +kernel
theorem ef_5 (m : MethodId) (a1 : Addr) (a2 : Addr) : entryFrame m #[(.ref a1), (.ref a2)] 2 = mkF m 0 #[.val (.ref a1), .val (.ref a2)] [] := by first | (simp [entryFrame, mkF, argsToLocals, Value.category]; done) | rfl
def Q5 (Z : State) (a1 : Addr) (a2 : Addr) (q1 : Int64) (q2 : Int64) (h0 : Heap) (n0 : Nat) (v : Option Value) (h : Heap) (L : List Loc) : Prop := v = some (.int (own_bi (q1 < q2))) ∧ Fr n0 L ∧ h = h0
set_option maxRecDepth 65536 in
set_option maxHeartbeats 40000000 in
theorem rm5 (l : Launch) (Z : State) (a0 : Array Value) (hw : ∀ d ∈ tables_1, d.before a0 Z = true) (ws : List Jvm.Cond) (a1 : Addr) (a2 : Addr) (q1 : Int64) (q2 : Int64) (h0 : Heap) (n0 : Nat) (Z0 : n0 ≤ h0.size) (F1 : Fld Z h0 a1 "com/example/firmline/firmline/Call" "responded" "J" (.long q1)) (F2 : Fld Z h0 a2 "com/example/firmline/firmline/Call" "invoked" "J" (.long q2)) :
    MetFree l (⟨"com/example/firmline/firmline/Call", "precedes", "(Lcom/example/firmline/firmline/Call;)Z"⟩ : MethodName) (head1 (Jvm.Cond.code (⟨"com/example/firmline/firmline/Call", "precedes", "(Lcom/example/firmline/firmline/Call;)Z"⟩ : MethodName) prog_21_method_4_code 2 (some .boolean) :: ws) ({ frames := 0, cells := 0, slots := 0, locals := 0 } : Room)) (fun a U => a = #[(.ref a1), (.ref a2)] ∧ Z.Warmed39 U.vm ∧ U.heap = h0) (fun _ _ _ _ _ => True) (fun _ U o U' => ∃ v L, o = .returned v ∧ Q5 Z a1 a2 q1 q2 h0 n0 v U'.heap L ∧ FrameEnd U o U' L ({ frames := 0, cells := 0, slots := 0, locals := 0 } : Room).cells ({ frames := 0, cells := 0, slots := 0, locals := 0 } : Room).slots) := by
  refine MetFree.of_bodySF (plainFor_of_name pn_5) hisR ?_
  intro p e s m args below meth c s₁ Bd hml0 hP hK
  obtain ⟨rfl, hZ, hh⟩ := hP
  have hx := Bd.exec
  have hby := Bd.bytes
  have hml : c.maxLocals = 2 := hml0
  have hown : s.vm.findClass "com/example/firmline/firmline/Call" = some m.cls := findClass_of_methodNamed Bd.named
  have hnm := (name_of_methodNamed Bd.named Bd.method).1
  have X0 : Stand p l e ({ frames := 0, cells := 0, slots := 0, locals := 0 } : Room) s m #[(.ref a1), (.ref a2)] below meth c s₁ [] 0 0 := Stand.of_body Bd
  have e0 : s₁.heap = h0 := by rw [← hh, Bd.state]; rfl
  have N0 := Fr.nil n0
  have pre0 : ∀ t, Steps p.tables e below (s₁.setTop (mkF m 0 #[.val (.ref a1), .val (.ref a2)] [])) t → Steps p.tables e below (s₁.setTop (entryFrame m #[(.ref a1), (.ref a2)] 2)) t := fun t k => castTop (ef_5 m a1 a2) k
  have pre1 : ∀ t, Steps p.tables e below (s₁.setTop (mkF m 1 #[.val (.ref a1), .val (.ref a2)] [(.ref a1)])) t → Steps p.tables e below (s₁.setTop (entryFrame m #[(.ref a1), (.ref a2)] 2)) t := by
    intro t k
    refine pre0 t ?_
    refine XS.aloadN X0.here hx rfl (hb hby d5_0) rfl rfl ?_
    show Steps p.tables e below (s₁.setTop (mkF m 1 #[.val (.ref a1), .val (.ref a2)] [(.ref a1)])) _
    exact k
  obtain ⟨T2, X2, e2, st2⟩ := getF X0 hx hZ hown (host := "") (Or.inl (hw _ (List.mem_of_getElem? (i := 22) rfl))) Via.refl e0 F1 (g := (mkF m 1 #[.val (.ref a1), .val (.ref a2)] [(.ref a1)])) rfl rfl (hb hby d5_1)
  have pre3 : ∀ t, Steps p.tables e below (T2.setTop (mkF m 4 #[.val (.ref a1), .val (.ref a2)] [(.long q1)])) t → Steps p.tables e below (s₁.setTop (entryFrame m #[(.ref a1), (.ref a2)] 2)) t := fun t k => pre1 t (st2 t k)
  have pre4 : ∀ t, Steps p.tables e below (T2.setTop (mkF m 5 #[.val (.ref a1), .val (.ref a2)] [(.ref a2), (.long q1)])) t → Steps p.tables e below (s₁.setTop (entryFrame m #[(.ref a1), (.ref a2)] 2)) t := by
    intro t k
    refine pre3 t ?_
    refine XS.aloadN X2.here hx rfl (hb hby d5_4) rfl rfl ?_
    show Steps p.tables e below (T2.setTop (mkF m 5 #[.val (.ref a1), .val (.ref a2)] [(.ref a2), (.long q1)])) _
    exact k
  obtain ⟨T5, X5, e5, st5⟩ := getF X2 hx hZ hown (host := "") (Or.inl (hw _ (List.mem_of_getElem? (i := 20) rfl))) Via.refl e2 F2 (g := (mkF m 5 #[.val (.ref a1), .val (.ref a2)] [(.ref a2), (.long q1)])) rfl rfl (hb hby d5_5)
  have pre6 : ∀ t, Steps p.tables e below (T5.setTop (mkF m 8 #[.val (.ref a1), .val (.ref a2)] [(.long q2), (.long q1)])) t → Steps p.tables e below (s₁.setTop (entryFrame m #[(.ref a1), (.ref a2)] 2)) t := fun t k => pre4 t (st5 t k)
  have mrg7 : ∃ (b : Int32) (T7 : State) (Lo7 : List Loc), Stand p l e ({ frames := 0, cells := 0, slots := 0, locals := 0 } : Room) s m #[(.ref a1), (.ref a2)] below meth c T7 Lo7 0 0 ∧ Fr n0 Lo7 ∧ T7.heap = h0 ∧ (b = own_bi (q1 < q2)) ∧ ∀ t, Steps p.tables e below (T7.setTop (mkF m 17 #[.val (.ref a1), .val (.ref a2)] [(.int b)])) t → Steps p.tables e below (s₁.setTop (entryFrame m #[(.ref a1), (.ref a2)] 2)) t := by
    have pre8 : ∀ t, Steps p.tables e below (T5.setTop (mkF m 9 #[.val (.ref a1), .val (.ref a2)] [(.int (XT.cmpL q1 q2))])) t → Steps p.tables e below (s₁.setTop (entryFrame m #[(.ref a1), (.ref a2)] 2)) t := by
      intro t k
      refine pre6 t ?_
      refine XT.lcmp X5.here hx rfl (hb hby d5_8) rfl ?_
      show Steps p.tables e below (T5.setTop (mkF m 9 #[.val (.ref a1), .val (.ref a2)] [(.int (XT.cmpL q1 q2))])) _
      exact k
    by_cases hc9 : q1 < q2
    · skip
      have pre9 : ∀ t, Steps p.tables e below (T5.setTop (mkF m 17 #[.val (.ref a1), .val (.ref a2)] [(.int (1 : Int32))])) t → Steps p.tables e below (s₁.setTop (entryFrame m #[(.ref a1), (.ref a2)] 2)) t := by
        intro t k
        refine pre8 t ?_
        refine XS.ifNo X5.here hx rfl (hb hby d5_9) rfl (XT.ll_ge_f hc9) ?_
        show Steps p.tables e below (T5.setTop (mkF m 12 #[.val (.ref a1), .val (.ref a2)] [])) _
        refine XS.iconst X5.here hx rfl (hb hby d5_12) ?_
        show Steps p.tables e below (T5.setTop (mkF m 13 #[.val (.ref a1), .val (.ref a2)] [(.int (1 : Int32))])) _
        refine XS.goto X5.here hx rfl (pc0 := 13) (pc' := 17) rfl (hb hby d5_13) (by decide) (by decide) ?_
        show Steps p.tables e below (T5.setTop (mkF m 17 #[.val (.ref a1), .val (.ref a2)] [(.int (1 : Int32))])) _
        exact k
      exact ⟨(1 : Int32), _, _, X5, N0, e5, (by first | (simp [own_bi, hc9]; done) | contradiction), pre9⟩
    · skip
      have pre10 : ∀ t, Steps p.tables e below (T5.setTop (mkF m 17 #[.val (.ref a1), .val (.ref a2)] [(.int (0 : Int32))])) t → Steps p.tables e below (s₁.setTop (entryFrame m #[(.ref a1), (.ref a2)] 2)) t := by
        intro t k
        refine pre8 t ?_
        refine XS.ifYes X5.here hx rfl (pc0 := 9) (pc' := 16) rfl (hb hby d5_9) rfl (XT.ll_ge_t hc9) (by decide) (by decide) ?_
        show Steps p.tables e below (T5.setTop (mkF m 16 #[.val (.ref a1), .val (.ref a2)] [])) _
        refine XS.iconst X5.here hx rfl (hb hby d5_16) ?_
        show Steps p.tables e below (T5.setTop (mkF m 17 #[.val (.ref a1), .val (.ref a2)] [(.int (0 : Int32))])) _
        exact k
      exact ⟨(0 : Int32), _, _, X5, N0, e5, (by first | (simp [own_bi, hc9]; done) | contradiction), pre10⟩
  obtain ⟨b, T7, Lo7, X7, N7, e7, hb, pre7⟩ := mrg7
  subst hb
  obtain ⟨fs, hr, hrun, hended, hW, hsame⟩ := X7.leave (v := some (.int (own_bi (q1 < q2)))) (fun h => by rw [Bd.returns] at h; cases h)
  refine ⟨_, _, pre7 _ ?_, hrun, hended, _, _, rfl, ?_, ⟨_, rfl⟩, hW, hsame.mono (by decide) (by decide)⟩
  · exact retOut X7 hx Bd.returns (own_narZ (own_bi_01 _)) (Or.inl ⟨rfl, by simp, _, rfl⟩) (hb hby d5_17) hr
  · show Q5 Z a1 a2 q1 q2 h0 n0 _ T7.heap _
    rw [e7]
    exact ⟨rfl, N7, rfl⟩
theorem pd_ini : parseMethodDescriptor "(ILcom/example/firmline/firmline/Operation;Ljava/lang/Object;JJ)V" = some ⟨[.int, (.object "com/example/firmline/firmline/Operation"), (.object "java/lang/Object"), .long, .long], none⟩ := by decide +kernel
theorem pd_pen : parseMethodDescriptor "(ILcom/example/firmline/firmline/Operation;J)Lcom/example/firmline/firmline/Call;" = some ⟨[.int, (.object "com/example/firmline/firmline/Operation"), .long], some (.object "com/example/firmline/firmline/Call")⟩ := by decide +kernel
theorem pd_pre : parseMethodDescriptor "(Lcom/example/firmline/firmline/Call;)Z" = some ⟨[(.object "com/example/firmline/firmline/Call")], some .boolean⟩ := by decide +kernel
theorem pn_law : plainName "com/example/firmline/firmline/CallPrecedesPinLaw" = true := by first | (simp [plainName, overriddenIn]; done) | decide +kernel
theorem ef_law (m : MethodId) (ta : Int64) (tb : Int64) (tc : Int64) (td : Int64) (pi : Int32) (qi : Int32) : entryFrame m #[(.long ta), (.long tb), (.long tc), (.long td), (.int pi), (.int qi)] maxLocals = mkF m 0 #[.val (.long ta), .second, .val (.long tb), .second, .val (.long tc), .second, .val (.long td), .second, .val (.int pi), .val (.int qi), .unset, .unset, .unset, .unset] [] := by first | (simp [entryFrame, mkF, argsToLocals, Value.category, maxLocals]; done) | rfl
def Qlaw (Z : State) (ta : Int64) (tb : Int64) (tc : Int64) (td : Int64) (pi : Int32) (qi : Int32) (h0 : Heap) (n0 : Nat) (v : Option Value) (h : Heap) (L : List Loc) : Prop := v = some (.int (1 : Int32)) ∧ Fr n0 L
set_option maxRecDepth 65536 in
set_option maxHeartbeats 40000000 in
theorem rmlaw (l : Launch) (Z : State) (a0 : Array Value) (hw : ∀ d ∈ tables_1, d.before a0 Z = true) (ws : List Jvm.Cond) (ta : Int64) (tb : Int64) (tc : Int64) (td : Int64) (pi : Int32) (qi : Int32) (h0 : Heap) (n0 : Nat) (Z0 : n0 ≤ h0.size) :
    MetFree l x (head1 (Jvm.Cond.code x code maxLocals ret :: ws) room_1) (fun a U => a = #[(.long ta), (.long tb), (.long tc), (.long td), (.int pi), (.int qi)] ∧ Z.Warmed39 U.vm ∧ U.heap = h0) (fun _ _ _ _ _ => True) (fun _ U o U' => ∃ v L, o = .returned v ∧ Qlaw Z ta tb tc td pi qi h0 n0 v U'.heap L ∧ FrameEnd U o U' L room_1.cells room_1.slots) := by
  refine MetFree.of_bodySF (plainFor_of_name pn_law) hisR ?_
  intro p e s m args below meth c s₁ Bd hml0 hP hK
  obtain ⟨rfl, hZ, hh⟩ := hP
  have hx := Bd.exec
  have hby := Bd.bytes
  have hml : c.maxLocals = 14 := hml0
  have hown : s.vm.findClass "com/example/firmline/firmline/CallPrecedesPinLaw" = some m.cls := findClass_of_methodNamed Bd.named
  have hnm := (name_of_methodNamed Bd.named Bd.method).1
  have X0 : Stand p l e room_1 s m #[(.long ta), (.long tb), (.long tc), (.long td), (.int pi), (.int qi)] below meth c s₁ [] 0 0 := Stand.of_body Bd
  have e0 : s₁.heap = h0 := by rw [← hh, Bd.state]; rfl
  have N0 := Fr.nil n0
  have pre0 : ∀ t, Steps p.tables e below (s₁.setTop (mkF m 0 #[.val (.long ta), .second, .val (.long tb), .second, .val (.long tc), .second, .val (.long td), .second, .val (.int pi), .val (.int qi), .unset, .unset, .unset, .unset] [])) t → Steps p.tables e below (s₁.setTop (entryFrame m #[(.long ta), (.long tb), (.long tc), (.long td), (.int pi), (.int qi)] maxLocals)) t := fun t k => castTop (ef_law m ta tb tc td pi qi) k
  obtain ⟨T2, h2, X2, e2, E2, A2, D2, -, st2⟩ := newO X0 hx hZ hown (hw _ (List.mem_of_getElem? (i := 0) rfl)) (hw _ (List.mem_of_getElem? (i := 1) rfl)) (hw _ (List.mem_of_getElem? (i := 2) rfl)) e0 (g := (mkF m 0 #[.val (.long ta), .second, .val (.long tb), .second, .val (.long tc), .second, .val (.long td), .second, .val (.int pi), .val (.int qi), .unset, .unset, .unset, .unset] [])) rfl (hb hby at_0) (by decide) (by decide)
  obtain ⟨b1, gz2⟩ : ∃ z, z = h0.size := ⟨_, rfl⟩
  rw [← gz2] at A2 D2 st2
  have g_b1 : n0 ≤ b1 := Nat.le_trans Z0 (Nat.le_of_eq gz2.symm)
  have F_process_b1 : Fld Z h2 b1 "com/example/firmline/firmline/Call" "process" "I" (.int (0 : Int32)) := D2 (Or.inr (hw _ (List.mem_of_getElem? (i := 15) rfl))) (ty := .int) (by decide)
  have F_operation_b1 : Fld Z h2 b1 "com/example/firmline/firmline/Call" "operation" "Lcom/example/firmline/firmline/Operation;" .null := D2 (Or.inr (hw _ (List.mem_of_getElem? (i := 17) rfl))) (ty := (.object "com/example/firmline/firmline/Operation")) (by decide)
  have F_response_b1 : Fld Z h2 b1 "com/example/firmline/firmline/Call" "response" "Ljava/lang/Object;" .null := D2 (Or.inr (hw _ (List.mem_of_getElem? (i := 19) rfl))) (ty := (.object "java/lang/Object")) (by decide)
  have F_invoked_b1 : Fld Z h2 b1 "com/example/firmline/firmline/Call" "invoked" "J" (.long (0 : Int64)) := D2 (Or.inr (hw _ (List.mem_of_getElem? (i := 21) rfl))) (ty := .long) (by decide)
  have F_responded_b1 : Fld Z h2 b1 "com/example/firmline/firmline/Call" "responded" "J" (.long (0 : Int64)) := D2 (Or.inr (hw _ (List.mem_of_getElem? (i := 23) rfl))) (ty := .long) (by decide)
  have pre3 : ∀ t, Steps p.tables e below (T2.setTop (mkF m 3 #[.val (.long ta), .second, .val (.long tb), .second, .val (.long tc), .second, .val (.long td), .second, .val (.int pi), .val (.int qi), .unset, .unset, .unset, .unset] [(.ref b1)])) t → Steps p.tables e below (s₁.setTop (entryFrame m #[(.long ta), (.long tb), (.long tc), (.long td), (.int pi), (.int qi)] maxLocals)) t := fun t k => pre0 t (st2 t k)
  have Z4 : n0 ≤ h2.size := (Nat.le_trans Z0 E2.1)
  have pre6 : ∀ t, Steps p.tables e below (T2.setTop (mkF m 10 #[.val (.long ta), .second, .val (.long tb), .second, .val (.long tc), .second, .val (.long td), .second, .val (.int pi), .val (.int qi), .unset, .unset, .unset, .unset] [(.long tb), (.long ta), .null, .null, (.int pi), (.ref b1), (.ref b1)])) t → Steps p.tables e below (s₁.setTop (entryFrame m #[(.long ta), (.long tb), (.long tc), (.long td), (.int pi), (.int qi)] maxLocals)) t := by
    intro t k
    refine pre3 t ?_
    refine XS.dup X2.here hx rfl (hb hby at_3) rfl rfl ?_
    show Steps p.tables e below (T2.setTop (mkF m 4 #[.val (.long ta), .second, .val (.long tb), .second, .val (.long tc), .second, .val (.long td), .second, .val (.int pi), .val (.int qi), .unset, .unset, .unset, .unset] [(.ref b1), (.ref b1)])) _
    refine XS.iload X2.here hx rfl (hb hby at_4) rfl ?_
    show Steps p.tables e below (T2.setTop (mkF m 6 #[.val (.long ta), .second, .val (.long tb), .second, .val (.long tc), .second, .val (.long td), .second, .val (.int pi), .val (.int qi), .unset, .unset, .unset, .unset] [(.int pi), (.ref b1), (.ref b1)])) _
    refine XS.aconstNull X2.here hx rfl (hb hby at_6) ?_
    show Steps p.tables e below (T2.setTop (mkF m 7 #[.val (.long ta), .second, .val (.long tb), .second, .val (.long tc), .second, .val (.long td), .second, .val (.int pi), .val (.int qi), .unset, .unset, .unset, .unset] [.null, (.int pi), (.ref b1), (.ref b1)])) _
    refine XS.aconstNull X2.here hx rfl (hb hby at_7) ?_
    show Steps p.tables e below (T2.setTop (mkF m 8 #[.val (.long ta), .second, .val (.long tb), .second, .val (.long tc), .second, .val (.long td), .second, .val (.int pi), .val (.int qi), .unset, .unset, .unset, .unset] [.null, .null, (.int pi), (.ref b1), (.ref b1)])) _
    refine XT.lloadN X2.here hx rfl (hb hby at_8) rfl ?_
    show Steps p.tables e below (T2.setTop (mkF m 9 #[.val (.long ta), .second, .val (.long tb), .second, .val (.long tc), .second, .val (.long td), .second, .val (.int pi), .val (.int qi), .unset, .unset, .unset, .unset] [(.long ta), .null, .null, (.int pi), (.ref b1), (.ref b1)])) _
    refine XT.lloadN X2.here hx rfl (hb hby at_9) rfl ?_
    show Steps p.tables e below (T2.setTop (mkF m 10 #[.val (.long ta), .second, .val (.long tb), .second, .val (.long tc), .second, .val (.long td), .second, .val (.int pi), .val (.int qi), .unset, .unset, .unset, .unset] [(.long tb), (.long ta), .null, .null, (.int pi), (.ref b1), (.ref b1)])) _
    exact k
  obtain ⟨_, _, ⟨T8, L8, k8, n8⟩, -, X8, ⟨Lc8, hQ8, l8, y8, z8⟩, st8⟩ := X2.specialBack hx (y := (⟨"com/example/firmline/firmline/Call", "<init>", "(ILcom/example/firmline/firmline/Operation;Ljava/lang/Object;JJ)V"⟩ : MethodName)) rfl hown (mvT hZ (hw _ (List.mem_of_getElem? (i := 3) rfl))) (mvT hZ (hw _ (List.mem_of_getElem? (i := 4) rfl))) (mvT hZ (hw _ (List.mem_of_getElem? (i := 5) rfl))) (by decide) (backOf (W := 1) (rm1 l Z a0 hw [] b1 pi ta tb h2 n0 Z4 A2 g_b1  F_process_b1 F_operation_b1 F_response_b1 F_invoked_b1 F_responded_b1) hZ (hw _ (List.mem_of_getElem? (i := 5) rfl)) (hw _ (List.mem_of_getElem? (i := 2) rfl)) (by decide) (by decide)) (g := (mkF m 10 #[.val (.long ta), .second, .val (.long tb), .second, .val (.long tc), .second, .val (.long td), .second, .val (.int pi), .val (.int qi), .unset, .unset, .unset, .unset] [(.long tb), (.long ta), .null, .null, (.int pi), (.ref b1), (.ref b1)])) rfl (by rw [hml]; rfl) (Steps.refl _) (a := b1) (argsL := [(.int pi), .null, .null, (.long ta), (.long tb)]) (rest := [(.ref b1)]) (lenOf pd_ini rfl) rfl (by show 2 * 0 + _ ≤ _; exact Nat.le_of_eq rfl) (hb hby at_10) (fun _ _ => ⟨rfl, e2, (by decide : 1 + 0 ≤ _), (by decide : 5 + 0 ≤ _)⟩)
  dsimp only [Pt.U, Pt.locs, Pt.cells, Pt.slots] at X8 l8 y8 z8 st8 hQ8
  subst l8 y8 z8
  obtain ⟨rfl, Nq8, Kq8, Fx0_8, Fx1_8, Fx2_8, Fx3_8, Fx4_8⟩ := hQ8
  have N8 := Fr.app N0 Nq8
  have pre9 : ∀ t, Steps p.tables e below (T8.setTop (mkF m 13 #[.val (.long ta), .second, .val (.long tb), .second, .val (.long tc), .second, .val (.long td), .second, .val (.int pi), .val (.int qi), .unset, .unset, .unset, .unset] [(.ref b1)])) t → Steps p.tables e below (s₁.setTop (entryFrame m #[(.long ta), (.long tb), (.long tc), (.long td), (.int pi), (.int qi)] maxLocals)) t := fun t k => pre6 t (st8.trans k)
  obtain ⟨h8, e8⟩ : ∃ z, T8.heap = z := ⟨_, rfl⟩
  rw [e8] at Kq8 Fx0_8 Fx1_8 Fx2_8 Fx3_8 Fx4_8
  have E10_0 : Exa Z h8 b1 "com/example/firmline/firmline/Call" := (A2.keep Kq8)
  have Z10 : n0 ≤ h8.size := (Nat.le_trans Z4 Kq8.1)
  have pre12 : ∀ t, Steps p.tables e below (T8.setTop (mkF m 15 #[.val (.long ta), .second, .val (.long tb), .second, .val (.long tc), .second, .val (.long td), .second, .val (.int pi), .val (.int qi), .val (.ref b1), .unset, .unset, .unset] [])) t → Steps p.tables e below (s₁.setTop (entryFrame m #[(.long ta), (.long tb), (.long tc), (.long td), (.int pi), (.int qi)] maxLocals)) t := by
    intro t k
    refine pre9 t ?_
    refine XS.astore X8.here hx rfl (hb hby at_13) rfl rfl (l' := #[.val (.long ta), .second, .val (.long tb), .second, .val (.long tc), .second, .val (.long td), .second, .val (.int pi), .val (.int qi), .val (.ref b1), .unset, .unset, .unset]) rfl ?_
    show Steps p.tables e below (T8.setTop (mkF m 15 #[.val (.long ta), .second, .val (.long tb), .second, .val (.long tc), .second, .val (.long td), .second, .val (.int pi), .val (.int qi), .val (.ref b1), .unset, .unset, .unset] [])) _
    exact k
  obtain ⟨T13, h13, X13, e13, E13, A13, D13, -, st13⟩ := newO X8 hx hZ hown (hw _ (List.mem_of_getElem? (i := 0) rfl)) (hw _ (List.mem_of_getElem? (i := 1) rfl)) (hw _ (List.mem_of_getElem? (i := 2) rfl)) e8 (g := (mkF m 15 #[.val (.long ta), .second, .val (.long tb), .second, .val (.long tc), .second, .val (.long td), .second, .val (.int pi), .val (.int qi), .val (.ref b1), .unset, .unset, .unset] [])) rfl (hb hby at_15) (by decide) (by decide)
  obtain ⟨b2, gz13⟩ : ∃ z, z = h8.size := ⟨_, rfl⟩
  rw [← gz13] at A13 D13 st13
  have g_b2 : n0 ≤ b2 := Nat.le_trans Z10 (Nat.le_of_eq gz13.symm)
  have ne_b1_b2 : b1 ≠ b2 := by rw [gz13]; exact Nat.ne_of_lt Fx0_8.lt
  have F_process_b2 : Fld Z h13 b2 "com/example/firmline/firmline/Call" "process" "I" (.int (0 : Int32)) := D13 (Or.inr (hw _ (List.mem_of_getElem? (i := 15) rfl))) (ty := .int) (by decide)
  have F_operation_b2 : Fld Z h13 b2 "com/example/firmline/firmline/Call" "operation" "Lcom/example/firmline/firmline/Operation;" .null := D13 (Or.inr (hw _ (List.mem_of_getElem? (i := 17) rfl))) (ty := (.object "com/example/firmline/firmline/Operation")) (by decide)
  have F_response_b2 : Fld Z h13 b2 "com/example/firmline/firmline/Call" "response" "Ljava/lang/Object;" .null := D13 (Or.inr (hw _ (List.mem_of_getElem? (i := 19) rfl))) (ty := (.object "java/lang/Object")) (by decide)
  have F_invoked_b2 : Fld Z h13 b2 "com/example/firmline/firmline/Call" "invoked" "J" (.long (0 : Int64)) := D13 (Or.inr (hw _ (List.mem_of_getElem? (i := 21) rfl))) (ty := .long) (by decide)
  have F_responded_b2 : Fld Z h13 b2 "com/example/firmline/firmline/Call" "responded" "J" (.long (0 : Int64)) := D13 (Or.inr (hw _ (List.mem_of_getElem? (i := 23) rfl))) (ty := .long) (by decide)
  have pre14 : ∀ t, Steps p.tables e below (T13.setTop (mkF m 18 #[.val (.long ta), .second, .val (.long tb), .second, .val (.long tc), .second, .val (.long td), .second, .val (.int pi), .val (.int qi), .val (.ref b1), .unset, .unset, .unset] [(.ref b2)])) t → Steps p.tables e below (s₁.setTop (entryFrame m #[(.long ta), (.long tb), (.long tc), (.long td), (.int pi), (.int qi)] maxLocals)) t := fun t k => pre12 t (st13 t k)
  have F15_0 : Fld Z h13 b1 "com/example/firmline/firmline/Call" "process" "I" (.int pi) := (Fx0_8.ext E13)
  have F15_1 : Fld Z h13 b1 "com/example/firmline/firmline/Call" "operation" "Lcom/example/firmline/firmline/Operation;" .null := (Fx1_8.ext E13)
  have F15_2 : Fld Z h13 b1 "com/example/firmline/firmline/Call" "response" "Ljava/lang/Object;" .null := (Fx2_8.ext E13)
  have F15_3 : Fld Z h13 b1 "com/example/firmline/firmline/Call" "invoked" "J" (.long ta) := (Fx3_8.ext E13)
  have F15_4 : Fld Z h13 b1 "com/example/firmline/firmline/Call" "responded" "J" (.long tb) := (Fx4_8.ext E13)
  have E15_0 : Exa Z h13 b1 "com/example/firmline/firmline/Call" := (E10_0.ext E13)
  have Z15 : n0 ≤ h13.size := (Nat.le_trans Z10 E13.1)
  have pre17 : ∀ t, Steps p.tables e below (T13.setTop (mkF m 27 #[.val (.long ta), .second, .val (.long tb), .second, .val (.long tc), .second, .val (.long td), .second, .val (.int pi), .val (.int qi), .val (.ref b1), .unset, .unset, .unset] [(.long td), (.long tc), .null, .null, (.int qi), (.ref b2), (.ref b2)])) t → Steps p.tables e below (s₁.setTop (entryFrame m #[(.long ta), (.long tb), (.long tc), (.long td), (.int pi), (.int qi)] maxLocals)) t := by
    intro t k
    refine pre14 t ?_
    refine XS.dup X13.here hx rfl (hb hby at_18) rfl rfl ?_
    show Steps p.tables e below (T13.setTop (mkF m 19 #[.val (.long ta), .second, .val (.long tb), .second, .val (.long tc), .second, .val (.long td), .second, .val (.int pi), .val (.int qi), .val (.ref b1), .unset, .unset, .unset] [(.ref b2), (.ref b2)])) _
    refine XS.iload X13.here hx rfl (hb hby at_19) rfl ?_
    show Steps p.tables e below (T13.setTop (mkF m 21 #[.val (.long ta), .second, .val (.long tb), .second, .val (.long tc), .second, .val (.long td), .second, .val (.int pi), .val (.int qi), .val (.ref b1), .unset, .unset, .unset] [(.int qi), (.ref b2), (.ref b2)])) _
    refine XS.aconstNull X13.here hx rfl (hb hby at_21) ?_
    show Steps p.tables e below (T13.setTop (mkF m 22 #[.val (.long ta), .second, .val (.long tb), .second, .val (.long tc), .second, .val (.long td), .second, .val (.int pi), .val (.int qi), .val (.ref b1), .unset, .unset, .unset] [.null, (.int qi), (.ref b2), (.ref b2)])) _
    refine XS.aconstNull X13.here hx rfl (hb hby at_22) ?_
    show Steps p.tables e below (T13.setTop (mkF m 23 #[.val (.long ta), .second, .val (.long tb), .second, .val (.long tc), .second, .val (.long td), .second, .val (.int pi), .val (.int qi), .val (.ref b1), .unset, .unset, .unset] [.null, .null, (.int qi), (.ref b2), (.ref b2)])) _
    refine XT.lload X13.here hx rfl (hb hby at_23) rfl ?_
    show Steps p.tables e below (T13.setTop (mkF m 25 #[.val (.long ta), .second, .val (.long tb), .second, .val (.long tc), .second, .val (.long td), .second, .val (.int pi), .val (.int qi), .val (.ref b1), .unset, .unset, .unset] [(.long tc), .null, .null, (.int qi), (.ref b2), (.ref b2)])) _
    refine XT.lload X13.here hx rfl (hb hby at_25) rfl ?_
    show Steps p.tables e below (T13.setTop (mkF m 27 #[.val (.long ta), .second, .val (.long tb), .second, .val (.long tc), .second, .val (.long td), .second, .val (.int pi), .val (.int qi), .val (.ref b1), .unset, .unset, .unset] [(.long td), (.long tc), .null, .null, (.int qi), (.ref b2), (.ref b2)])) _
    exact k
  obtain ⟨_, _, ⟨T19, L19, k19, n19⟩, -, X19, ⟨Lc19, hQ19, l19, y19, z19⟩, st19⟩ := X13.specialBack hx (y := (⟨"com/example/firmline/firmline/Call", "<init>", "(ILcom/example/firmline/firmline/Operation;Ljava/lang/Object;JJ)V"⟩ : MethodName)) rfl hown (mvT hZ (hw _ (List.mem_of_getElem? (i := 3) rfl))) (mvT hZ (hw _ (List.mem_of_getElem? (i := 4) rfl))) (mvT hZ (hw _ (List.mem_of_getElem? (i := 5) rfl))) (by decide) (backOf (W := 1) (rm1 l Z a0 hw [] b2 qi tc td h13 n0 Z15 A13 g_b2  F_process_b2 F_operation_b2 F_response_b2 F_invoked_b2 F_responded_b2) hZ (hw _ (List.mem_of_getElem? (i := 5) rfl)) (hw _ (List.mem_of_getElem? (i := 2) rfl)) (by decide) (by decide)) (g := (mkF m 27 #[.val (.long ta), .second, .val (.long tb), .second, .val (.long tc), .second, .val (.long td), .second, .val (.int pi), .val (.int qi), .val (.ref b1), .unset, .unset, .unset] [(.long td), (.long tc), .null, .null, (.int qi), (.ref b2), (.ref b2)])) rfl (by rw [hml]; rfl) (Steps.refl _) (a := b2) (argsL := [(.int qi), .null, .null, (.long tc), (.long td)]) (rest := [(.ref b2)]) (lenOf pd_ini rfl) rfl (by show 2 * 0 + _ ≤ _; exact Nat.le_of_eq rfl) (hb hby at_27) (fun _ _ => ⟨rfl, e13, (by decide : 2 + 0 ≤ _), (by decide : 10 + 0 ≤ _)⟩)
  dsimp only [Pt.U, Pt.locs, Pt.cells, Pt.slots] at X19 l19 y19 z19 st19 hQ19
  subst l19 y19 z19
  obtain ⟨rfl, Nq19, Kq19, Fx0_19, Fx1_19, Fx2_19, Fx3_19, Fx4_19⟩ := hQ19
  have N19 := Fr.app N8 Nq19
  have pre20 : ∀ t, Steps p.tables e below (T19.setTop (mkF m 30 #[.val (.long ta), .second, .val (.long tb), .second, .val (.long tc), .second, .val (.long td), .second, .val (.int pi), .val (.int qi), .val (.ref b1), .unset, .unset, .unset] [(.ref b2)])) t → Steps p.tables e below (s₁.setTop (entryFrame m #[(.long ta), (.long tb), (.long tc), (.long td), (.int pi), (.int qi)] maxLocals)) t := fun t k => pre17 t (st19.trans k)
  obtain ⟨h19, e19⟩ : ∃ z, T19.heap = z := ⟨_, rfl⟩
  rw [e19] at Kq19 Fx0_19 Fx1_19 Fx2_19 Fx3_19 Fx4_19
  have F21_0 : Fld Z h19 b1 "com/example/firmline/firmline/Call" "process" "I" (.int pi) := (F15_0.keep Kq19 (ninS ne_b1_b2 nin0))
  have F21_1 : Fld Z h19 b1 "com/example/firmline/firmline/Call" "operation" "Lcom/example/firmline/firmline/Operation;" .null := (F15_1.keep Kq19 (ninS ne_b1_b2 nin0))
  have F21_2 : Fld Z h19 b1 "com/example/firmline/firmline/Call" "response" "Ljava/lang/Object;" .null := (F15_2.keep Kq19 (ninS ne_b1_b2 nin0))
  have F21_3 : Fld Z h19 b1 "com/example/firmline/firmline/Call" "invoked" "J" (.long ta) := (F15_3.keep Kq19 (ninS ne_b1_b2 nin0))
  have F21_4 : Fld Z h19 b1 "com/example/firmline/firmline/Call" "responded" "J" (.long tb) := (F15_4.keep Kq19 (ninS ne_b1_b2 nin0))
  have E21_0 : Exa Z h19 b1 "com/example/firmline/firmline/Call" := (E15_0.keep Kq19)
  have E21_1 : Exa Z h19 b2 "com/example/firmline/firmline/Call" := (A13.keep Kq19)
  have Z21 : n0 ≤ h19.size := (Nat.le_trans Z15 Kq19.1)
  have pre23 : ∀ t, Steps p.tables e below (T19.setTop (mkF m 37 #[.val (.long ta), .second, .val (.long tb), .second, .val (.long tc), .second, .val (.long td), .second, .val (.int pi), .val (.int qi), .val (.ref b1), .val (.ref b2), .unset, .unset] [(.long tc), .null, (.int qi)])) t → Steps p.tables e below (s₁.setTop (entryFrame m #[(.long ta), (.long tb), (.long tc), (.long td), (.int pi), (.int qi)] maxLocals)) t := by
    intro t k
    refine pre20 t ?_
    refine XS.astore X19.here hx rfl (hb hby at_30) rfl rfl (l' := #[.val (.long ta), .second, .val (.long tb), .second, .val (.long tc), .second, .val (.long td), .second, .val (.int pi), .val (.int qi), .val (.ref b1), .val (.ref b2), .unset, .unset]) rfl ?_
    show Steps p.tables e below (T19.setTop (mkF m 32 #[.val (.long ta), .second, .val (.long tb), .second, .val (.long tc), .second, .val (.long td), .second, .val (.int pi), .val (.int qi), .val (.ref b1), .val (.ref b2), .unset, .unset] [])) _
    refine XS.iload X19.here hx rfl (hb hby at_32) rfl ?_
    show Steps p.tables e below (T19.setTop (mkF m 34 #[.val (.long ta), .second, .val (.long tb), .second, .val (.long tc), .second, .val (.long td), .second, .val (.int pi), .val (.int qi), .val (.ref b1), .val (.ref b2), .unset, .unset] [(.int qi)])) _
    refine XS.aconstNull X19.here hx rfl (hb hby at_34) ?_
    show Steps p.tables e below (T19.setTop (mkF m 35 #[.val (.long ta), .second, .val (.long tb), .second, .val (.long tc), .second, .val (.long td), .second, .val (.int pi), .val (.int qi), .val (.ref b1), .val (.ref b2), .unset, .unset] [.null, (.int qi)])) _
    refine XT.lload X19.here hx rfl (hb hby at_35) rfl ?_
    show Steps p.tables e below (T19.setTop (mkF m 37 #[.val (.long ta), .second, .val (.long tb), .second, .val (.long tc), .second, .val (.long td), .second, .val (.int pi), .val (.int qi), .val (.ref b1), .val (.ref b2), .unset, .unset] [(.long tc), .null, (.int qi)])) _
    exact k
  obtain ⟨_, _, ⟨T25, L25, k25, n25⟩, -, X25, ⟨Lc25, hQ25, l25, y25, z25⟩, st25⟩ := Jvm.LawKit.callS X19 hx (y := (⟨"com/example/firmline/firmline/Call", "pending", "(ILcom/example/firmline/firmline/Operation;J)Lcom/example/firmline/firmline/Call;"⟩ : MethodName)) hown (mvT hZ (hw _ (List.mem_of_getElem? (i := 24) rfl))) (mvT hZ (hw _ (List.mem_of_getElem? (i := 25) rfl))) (mvT hZ (hw _ (List.mem_of_getElem? (i := 2) rfl))) (mvT hZ (hw _ (List.mem_of_getElem? (i := 26) rfl))) (by decide) (backOf (W := 0) (rm4 l Z a0 hw [] qi tc h19 n0 Z21) hZ (hw _ (List.mem_of_getElem? (i := 26) rfl)) (hw _ (List.mem_of_getElem? (i := 2) rfl)) (by decide) (by decide)) (g := (mkF m 37 #[.val (.long ta), .second, .val (.long tb), .second, .val (.long tc), .second, .val (.long td), .second, .val (.int pi), .val (.int qi), .val (.ref b1), .val (.ref b2), .unset, .unset] [(.long tc), .null, (.int qi)])) rfl (by rw [hml]; rfl) (argsL := [(.int qi), .null, (.long tc)]) (rest := []) (lenOf pd_pen rfl) rfl (by show 2 * 0 + _ ≤ _; exact Nat.le_of_eq rfl) (hb hby at_37) (fun _ _ => ⟨rfl, e19, (by decide : 2 + 1 ≤ _), (by decide : 10 + 5 ≤ _)⟩)
  dsimp only [Pt.U, Pt.locs, Pt.cells, Pt.slots] at X25 l25 y25 z25 st25 hQ25
  subst l25 y25 z25
  obtain ⟨b3, rfl, Nq25, Kq25, gq25, Aq25, Fi25, Fr25⟩ := hQ25
  have N25 := Fr.app N19 Nq25
  have pre26 : ∀ t, Steps p.tables e below (T25.setTop (mkF m 40 #[.val (.long ta), .second, .val (.long tb), .second, .val (.long tc), .second, .val (.long td), .second, .val (.int pi), .val (.int qi), .val (.ref b1), .val (.ref b2), .unset, .unset] [(.ref b3)])) t → Steps p.tables e below (s₁.setTop (entryFrame m #[(.long ta), (.long tb), (.long tc), (.long td), (.int pi), (.int qi)] maxLocals)) t := fun t k => pre23 t (st25 t k)
  obtain ⟨h25, e25⟩ : ∃ z, T25.heap = z := ⟨_, rfl⟩
  have g_b3 : n0 ≤ b3 := Nat.le_trans Z21 gq25
  have ne_b1_b3 : b1 ≠ b3 := Nat.ne_of_lt (Nat.lt_of_lt_of_le F21_0.lt gq25)
  have ne_b2_b3 : b2 ≠ b3 := Nat.ne_of_lt (Nat.lt_of_lt_of_le Fx0_19.lt gq25)
  rw [e25] at Kq25 Aq25 Fi25 Fr25
  have F27_0 : Fld Z h25 b1 "com/example/firmline/firmline/Call" "process" "I" (.int pi) := (F21_0.keep Kq25 nin0)
  have F27_1 : Fld Z h25 b1 "com/example/firmline/firmline/Call" "operation" "Lcom/example/firmline/firmline/Operation;" .null := (F21_1.keep Kq25 nin0)
  have F27_2 : Fld Z h25 b1 "com/example/firmline/firmline/Call" "response" "Ljava/lang/Object;" .null := (F21_2.keep Kq25 nin0)
  have F27_3 : Fld Z h25 b1 "com/example/firmline/firmline/Call" "invoked" "J" (.long ta) := (F21_3.keep Kq25 nin0)
  have F27_4 : Fld Z h25 b1 "com/example/firmline/firmline/Call" "responded" "J" (.long tb) := (F21_4.keep Kq25 nin0)
  have F27_5 : Fld Z h25 b2 "com/example/firmline/firmline/Call" "process" "I" (.int qi) := (Fx0_19.keep Kq25 nin0)
  have F27_6 : Fld Z h25 b2 "com/example/firmline/firmline/Call" "operation" "Lcom/example/firmline/firmline/Operation;" .null := (Fx1_19.keep Kq25 nin0)
  have F27_7 : Fld Z h25 b2 "com/example/firmline/firmline/Call" "response" "Ljava/lang/Object;" .null := (Fx2_19.keep Kq25 nin0)
  have F27_8 : Fld Z h25 b2 "com/example/firmline/firmline/Call" "invoked" "J" (.long tc) := (Fx3_19.keep Kq25 nin0)
  have F27_9 : Fld Z h25 b2 "com/example/firmline/firmline/Call" "responded" "J" (.long td) := (Fx4_19.keep Kq25 nin0)
  have E27_0 : Exa Z h25 b1 "com/example/firmline/firmline/Call" := (E21_0.keep Kq25)
  have E27_1 : Exa Z h25 b2 "com/example/firmline/firmline/Call" := (E21_1.keep Kq25)
  have Z27 : n0 ≤ h25.size := (Nat.le_trans Z21 Kq25.1)
  have pre29 : ∀ t, Steps p.tables e below (T25.setTop (mkF m 46 #[.val (.long ta), .second, .val (.long tb), .second, .val (.long tc), .second, .val (.long td), .second, .val (.int pi), .val (.int qi), .val (.ref b1), .val (.ref b2), .val (.ref b3), .unset] [(.ref b2), (.ref b1)])) t → Steps p.tables e below (s₁.setTop (entryFrame m #[(.long ta), (.long tb), (.long tc), (.long td), (.int pi), (.int qi)] maxLocals)) t := by
    intro t k
    refine pre26 t ?_
    refine XS.astore X25.here hx rfl (hb hby at_40) rfl rfl (l' := #[.val (.long ta), .second, .val (.long tb), .second, .val (.long tc), .second, .val (.long td), .second, .val (.int pi), .val (.int qi), .val (.ref b1), .val (.ref b2), .val (.ref b3), .unset]) rfl ?_
    show Steps p.tables e below (T25.setTop (mkF m 42 #[.val (.long ta), .second, .val (.long tb), .second, .val (.long tc), .second, .val (.long td), .second, .val (.int pi), .val (.int qi), .val (.ref b1), .val (.ref b2), .val (.ref b3), .unset] [])) _
    refine XS.aload X25.here hx rfl (hb hby at_42) rfl rfl ?_
    show Steps p.tables e below (T25.setTop (mkF m 44 #[.val (.long ta), .second, .val (.long tb), .second, .val (.long tc), .second, .val (.long td), .second, .val (.int pi), .val (.int qi), .val (.ref b1), .val (.ref b2), .val (.ref b3), .unset] [(.ref b1)])) _
    refine XS.aload X25.here hx rfl (hb hby at_44) rfl rfl ?_
    show Steps p.tables e below (T25.setTop (mkF m 46 #[.val (.long ta), .second, .val (.long tb), .second, .val (.long tc), .second, .val (.long td), .second, .val (.int pi), .val (.int qi), .val (.ref b1), .val (.ref b2), .val (.ref b3), .unset] [(.ref b2), (.ref b1)])) _
    exact k
  obtain ⟨cq31, kq31, q31a, q31b, q31c⟩ := isOf hZ e25 E27_0
  obtain ⟨_, _, ⟨T31, L31, k31, n31⟩, -, X31, ⟨Lc31, hQ31, l31, y31, z31⟩, st31⟩ := X25.virtualBack hx (y := (⟨"com/example/firmline/firmline/Call", "precedes", "(Lcom/example/firmline/firmline/Call;)Z"⟩ : MethodName)) (z := (⟨"com/example/firmline/firmline/Call", "precedes", "(Lcom/example/firmline/firmline/Call;)Z"⟩ : MethodName)) hown (mvT hZ (hw _ (List.mem_of_getElem? (i := 30) rfl))) (mvT hZ (hw _ (List.mem_of_getElem? (i := 31) rfl))) (notFace_of_selects (args := #[]) (mvT hZ (hw _ (List.mem_of_getElem? (i := 33) rfl)))) (mvT hZ (hw _ (List.mem_of_getElem? (i := 33) rfl))) (mvT hZ (hw _ (List.mem_of_getElem? (i := 32) rfl))) (by decide) (backOf (W := 0) (rm5 l Z a0 hw [] b1 b2 tb tc h25 n0 Z27 F27_4 F27_8) hZ (hw _ (List.mem_of_getElem? (i := 34) rfl)) (hw _ (List.mem_of_getElem? (i := 2) rfl)) (by decide) (by decide)) q31a q31c (g := (mkF m 46 #[.val (.long ta), .second, .val (.long tb), .second, .val (.long tc), .second, .val (.long td), .second, .val (.int pi), .val (.int qi), .val (.ref b1), .val (.ref b2), .val (.ref b3), .unset] [(.ref b2), (.ref b1)])) rfl (by rw [hml]; rfl) (Steps.refl _) (argsL := [(.ref b2)]) (rest := []) (lenOf pd_pre rfl) rfl (by show 2 * 0 + _ ≤ _; exact Nat.le_of_eq rfl) (hb hby at_46) (fun _ _ => ⟨rfl, e25, (by decide : 3 + 0 ≤ _), (by decide : 15 + 0 ≤ _)⟩)
  dsimp only [Pt.U, Pt.locs, Pt.cells, Pt.slots] at X31 l31 y31 z31 st31 hQ31
  subst l31 y31 z31
  obtain ⟨rfl, Nq31, heq31⟩ := hQ31
  have N31 := Fr.app N25 Nq31
  have pre32 : ∀ t, Steps p.tables e below (T31.setTop (mkF m 49 #[.val (.long ta), .second, .val (.long tb), .second, .val (.long tc), .second, .val (.long td), .second, .val (.int pi), .val (.int qi), .val (.ref b1), .val (.ref b2), .val (.ref b3), .unset] [(.int (own_bi (tb < tc)))])) t → Steps p.tables e below (s₁.setTop (entryFrame m #[(.long ta), (.long tb), (.long tc), (.long td), (.int pi), (.int qi)] maxLocals)) t := fun t k => pre29 t (st31.trans k)
  have mrg33 : ∃ (e1 : Int32) (T33 : State) (Lo33 : List Loc), Stand p l e room_1 s m #[(.long ta), (.long tb), (.long tc), (.long td), (.int pi), (.int qi)] below meth c T33 Lo33 3 15 ∧ Fr n0 Lo33 ∧ T33.heap = h25 ∧ (e1 = own_bi (tb < tc)) ∧ ∀ t, Steps p.tables e below (T33.setTop (mkF m 61 #[.val (.long ta), .second, .val (.long tb), .second, .val (.long tc), .second, .val (.long td), .second, .val (.int pi), .val (.int qi), .val (.ref b1), .val (.ref b2), .val (.ref b3), .unset] [(.int e1), (.int (own_bi (tb < tc)))])) t → Steps p.tables e below (s₁.setTop (entryFrame m #[(.long ta), (.long tb), (.long tc), (.long td), (.int pi), (.int qi)] maxLocals)) t := by
    have pre34 : ∀ t, Steps p.tables e below (T31.setTop (mkF m 53 #[.val (.long ta), .second, .val (.long tb), .second, .val (.long tc), .second, .val (.long td), .second, .val (.int pi), .val (.int qi), .val (.ref b1), .val (.ref b2), .val (.ref b3), .unset] [(.int (XT.cmpL tb tc)), (.int (own_bi (tb < tc)))])) t → Steps p.tables e below (s₁.setTop (entryFrame m #[(.long ta), (.long tb), (.long tc), (.long td), (.int pi), (.int qi)] maxLocals)) t := by
      intro t k
      refine pre32 t ?_
      refine XT.lloadN X31.here hx rfl (hb hby at_49) rfl ?_
      show Steps p.tables e below (T31.setTop (mkF m 50 #[.val (.long ta), .second, .val (.long tb), .second, .val (.long tc), .second, .val (.long td), .second, .val (.int pi), .val (.int qi), .val (.ref b1), .val (.ref b2), .val (.ref b3), .unset] [(.long tb), (.int (own_bi (tb < tc)))])) _
      refine XT.lload X31.here hx rfl (hb hby at_50) rfl ?_
      show Steps p.tables e below (T31.setTop (mkF m 52 #[.val (.long ta), .second, .val (.long tb), .second, .val (.long tc), .second, .val (.long td), .second, .val (.int pi), .val (.int qi), .val (.ref b1), .val (.ref b2), .val (.ref b3), .unset] [(.long tc), (.long tb), (.int (own_bi (tb < tc)))])) _
      refine XT.lcmp X31.here hx rfl (hb hby at_52) rfl ?_
      show Steps p.tables e below (T31.setTop (mkF m 53 #[.val (.long ta), .second, .val (.long tb), .second, .val (.long tc), .second, .val (.long td), .second, .val (.int pi), .val (.int qi), .val (.ref b1), .val (.ref b2), .val (.ref b3), .unset] [(.int (XT.cmpL tb tc)), (.int (own_bi (tb < tc)))])) _
      exact k
    by_cases hc53 : tb < tc
    · skip
      have pre35 : ∀ t, Steps p.tables e below (T31.setTop (mkF m 61 #[.val (.long ta), .second, .val (.long tb), .second, .val (.long tc), .second, .val (.long td), .second, .val (.int pi), .val (.int qi), .val (.ref b1), .val (.ref b2), .val (.ref b3), .unset] [(.int (1 : Int32)), (.int (own_bi (tb < tc)))])) t → Steps p.tables e below (s₁.setTop (entryFrame m #[(.long ta), (.long tb), (.long tc), (.long td), (.int pi), (.int qi)] maxLocals)) t := by
        intro t k
        refine pre34 t ?_
        refine XS.ifNo X31.here hx rfl (hb hby at_53) rfl (XT.ll_ge_f hc53) ?_
        show Steps p.tables e below (T31.setTop (mkF m 56 #[.val (.long ta), .second, .val (.long tb), .second, .val (.long tc), .second, .val (.long td), .second, .val (.int pi), .val (.int qi), .val (.ref b1), .val (.ref b2), .val (.ref b3), .unset] [(.int (own_bi (tb < tc)))])) _
        refine XS.iconst X31.here hx rfl (hb hby at_56) ?_
        show Steps p.tables e below (T31.setTop (mkF m 57 #[.val (.long ta), .second, .val (.long tb), .second, .val (.long tc), .second, .val (.long td), .second, .val (.int pi), .val (.int qi), .val (.ref b1), .val (.ref b2), .val (.ref b3), .unset] [(.int (1 : Int32)), (.int (own_bi (tb < tc)))])) _
        refine XS.goto X31.here hx rfl (pc0 := 57) (pc' := 61) rfl (hb hby at_57) (by decide) (by decide) ?_
        show Steps p.tables e below (T31.setTop (mkF m 61 #[.val (.long ta), .second, .val (.long tb), .second, .val (.long tc), .second, .val (.long td), .second, .val (.int pi), .val (.int qi), .val (.ref b1), .val (.ref b2), .val (.ref b3), .unset] [(.int (1 : Int32)), (.int (own_bi (tb < tc)))])) _
        exact k
      exact ⟨(1 : Int32), _, _, X31, N31, heq31, (by first | (simp [own_bi, hc53]; done) | contradiction), pre35⟩
    · skip
      have pre36 : ∀ t, Steps p.tables e below (T31.setTop (mkF m 61 #[.val (.long ta), .second, .val (.long tb), .second, .val (.long tc), .second, .val (.long td), .second, .val (.int pi), .val (.int qi), .val (.ref b1), .val (.ref b2), .val (.ref b3), .unset] [(.int (0 : Int32)), (.int (own_bi (tb < tc)))])) t → Steps p.tables e below (s₁.setTop (entryFrame m #[(.long ta), (.long tb), (.long tc), (.long td), (.int pi), (.int qi)] maxLocals)) t := by
        intro t k
        refine pre34 t ?_
        refine XS.ifYes X31.here hx rfl (pc0 := 53) (pc' := 60) rfl (hb hby at_53) rfl (XT.ll_ge_t hc53) (by decide) (by decide) ?_
        show Steps p.tables e below (T31.setTop (mkF m 60 #[.val (.long ta), .second, .val (.long tb), .second, .val (.long tc), .second, .val (.long td), .second, .val (.int pi), .val (.int qi), .val (.ref b1), .val (.ref b2), .val (.ref b3), .unset] [(.int (own_bi (tb < tc)))])) _
        refine XS.iconst X31.here hx rfl (hb hby at_60) ?_
        show Steps p.tables e below (T31.setTop (mkF m 61 #[.val (.long ta), .second, .val (.long tb), .second, .val (.long tc), .second, .val (.long td), .second, .val (.int pi), .val (.int qi), .val (.ref b1), .val (.ref b2), .val (.ref b3), .unset] [(.int (0 : Int32)), (.int (own_bi (tb < tc)))])) _
        exact k
      exact ⟨(0 : Int32), _, _, X31, N31, heq31, (by first | (simp [own_bi, hc53]; done) | contradiction), pre36⟩
  obtain ⟨e1, T33, Lo33, X33, N33, e33, he1, pre33⟩ := mrg33
  have pre38 : ∀ t, Steps p.tables e below (T33.setTop (mkF m 80 #[.val (.long ta), .second, .val (.long tb), .second, .val (.long tc), .second, .val (.long td), .second, .val (.int pi), .val (.int qi), .val (.ref b1), .val (.ref b2), .val (.ref b3), .val (.int (1 : Int32))] [(.ref b1), (.ref b2)])) t → Steps p.tables e below (s₁.setTop (entryFrame m #[(.long ta), (.long tb), (.long tc), (.long td), (.int pi), (.int qi)] maxLocals)) t := by
    intro t k
    refine pre33 t ?_
    refine XS.icmpNo X33.here hx rfl (hb hby at_61) rfl (XT.ii_ne_f he1.symm) ?_
    show Steps p.tables e below (T33.setTop (mkF m 64 #[.val (.long ta), .second, .val (.long tb), .second, .val (.long tc), .second, .val (.long td), .second, .val (.int pi), .val (.int qi), .val (.ref b1), .val (.ref b2), .val (.ref b3), .unset] [])) _
    refine XS.iconst X33.here hx rfl (hb hby at_64) ?_
    show Steps p.tables e below (T33.setTop (mkF m 65 #[.val (.long ta), .second, .val (.long tb), .second, .val (.long tc), .second, .val (.long td), .second, .val (.int pi), .val (.int qi), .val (.ref b1), .val (.ref b2), .val (.ref b3), .unset] [(.int (1 : Int32))])) _
    refine XS.goto X33.here hx rfl (pc0 := 65) (pc' := 69) rfl (hb hby at_65) (by decide) (by decide) ?_
    show Steps p.tables e below (T33.setTop (mkF m 69 #[.val (.long ta), .second, .val (.long tb), .second, .val (.long tc), .second, .val (.long td), .second, .val (.int pi), .val (.int qi), .val (.ref b1), .val (.ref b2), .val (.ref b3), .unset] [(.int (1 : Int32))])) _
    refine XS.istore X33.here hx rfl (hb hby at_69) rfl (l' := #[.val (.long ta), .second, .val (.long tb), .second, .val (.long tc), .second, .val (.long td), .second, .val (.int pi), .val (.int qi), .val (.ref b1), .val (.ref b2), .val (.ref b3), .val (.int (1 : Int32))]) rfl ?_
    show Steps p.tables e below (T33.setTop (mkF m 71 #[.val (.long ta), .second, .val (.long tb), .second, .val (.long tc), .second, .val (.long td), .second, .val (.int pi), .val (.int qi), .val (.ref b1), .val (.ref b2), .val (.ref b3), .val (.int (1 : Int32))] [])) _
    refine XS.iload X33.here hx rfl (hb hby at_71) rfl ?_
    show Steps p.tables e below (T33.setTop (mkF m 73 #[.val (.long ta), .second, .val (.long tb), .second, .val (.long tc), .second, .val (.long td), .second, .val (.int pi), .val (.int qi), .val (.ref b1), .val (.ref b2), .val (.ref b3), .val (.int (1 : Int32))] [(.int (1 : Int32))])) _
    refine XS.ifNo X33.here hx rfl (hb hby at_73) rfl (XT.i0_eq_f (by decide)) ?_
    show Steps p.tables e below (T33.setTop (mkF m 76 #[.val (.long ta), .second, .val (.long tb), .second, .val (.long tc), .second, .val (.long td), .second, .val (.int pi), .val (.int qi), .val (.ref b1), .val (.ref b2), .val (.ref b3), .val (.int (1 : Int32))] [])) _
    refine XS.aload X33.here hx rfl (hb hby at_76) rfl rfl ?_
    show Steps p.tables e below (T33.setTop (mkF m 78 #[.val (.long ta), .second, .val (.long tb), .second, .val (.long tc), .second, .val (.long td), .second, .val (.int pi), .val (.int qi), .val (.ref b1), .val (.ref b2), .val (.ref b3), .val (.int (1 : Int32))] [(.ref b2)])) _
    refine XS.aload X33.here hx rfl (hb hby at_78) rfl rfl ?_
    show Steps p.tables e below (T33.setTop (mkF m 80 #[.val (.long ta), .second, .val (.long tb), .second, .val (.long tc), .second, .val (.long td), .second, .val (.int pi), .val (.int qi), .val (.ref b1), .val (.ref b2), .val (.ref b3), .val (.int (1 : Int32))] [(.ref b1), (.ref b2)])) _
    exact k
  obtain ⟨cq40, kq40, q40a, q40b, q40c⟩ := isOf hZ e33 E27_1
  obtain ⟨_, _, ⟨T40, L40, k40, n40⟩, -, X40, ⟨Lc40, hQ40, l40, y40, z40⟩, st40⟩ := X33.virtualBack hx (y := (⟨"com/example/firmline/firmline/Call", "precedes", "(Lcom/example/firmline/firmline/Call;)Z"⟩ : MethodName)) (z := (⟨"com/example/firmline/firmline/Call", "precedes", "(Lcom/example/firmline/firmline/Call;)Z"⟩ : MethodName)) hown (mvT hZ (hw _ (List.mem_of_getElem? (i := 30) rfl))) (mvT hZ (hw _ (List.mem_of_getElem? (i := 31) rfl))) (notFace_of_selects (args := #[]) (mvT hZ (hw _ (List.mem_of_getElem? (i := 33) rfl)))) (mvT hZ (hw _ (List.mem_of_getElem? (i := 33) rfl))) (mvT hZ (hw _ (List.mem_of_getElem? (i := 32) rfl))) (by decide) (backOf (W := 0) (rm5 l Z a0 hw [] b2 b1 td ta h25 n0 Z27 F27_9 F27_3) hZ (hw _ (List.mem_of_getElem? (i := 34) rfl)) (hw _ (List.mem_of_getElem? (i := 2) rfl)) (by decide) (by decide)) q40a q40c (g := (mkF m 80 #[.val (.long ta), .second, .val (.long tb), .second, .val (.long tc), .second, .val (.long td), .second, .val (.int pi), .val (.int qi), .val (.ref b1), .val (.ref b2), .val (.ref b3), .val (.int (1 : Int32))] [(.ref b1), (.ref b2)])) rfl (by rw [hml]; rfl) (Steps.refl _) (argsL := [(.ref b1)]) (rest := []) (lenOf pd_pre rfl) rfl (by show 2 * 0 + _ ≤ _; exact Nat.le_of_eq rfl) (hb hby at_80) (fun _ _ => ⟨rfl, e33, (by decide : 3 + 0 ≤ _), (by decide : 15 + 0 ≤ _)⟩)
  dsimp only [Pt.U, Pt.locs, Pt.cells, Pt.slots] at X40 l40 y40 z40 st40 hQ40
  subst l40 y40 z40
  obtain ⟨rfl, Nq40, heq40⟩ := hQ40
  have N40 := Fr.app N33 Nq40
  have pre41 : ∀ t, Steps p.tables e below (T40.setTop (mkF m 83 #[.val (.long ta), .second, .val (.long tb), .second, .val (.long tc), .second, .val (.long td), .second, .val (.int pi), .val (.int qi), .val (.ref b1), .val (.ref b2), .val (.ref b3), .val (.int (1 : Int32))] [(.int (own_bi (td < ta)))])) t → Steps p.tables e below (s₁.setTop (entryFrame m #[(.long ta), (.long tb), (.long tc), (.long td), (.int pi), (.int qi)] maxLocals)) t := fun t k => pre38 t (st40.trans k)
  have mrg42 : ∃ (e2 : Int32) (T42 : State) (Lo42 : List Loc), Stand p l e room_1 s m #[(.long ta), (.long tb), (.long tc), (.long td), (.int pi), (.int qi)] below meth c T42 Lo42 3 15 ∧ Fr n0 Lo42 ∧ T42.heap = h25 ∧ (e2 = own_bi (td < ta)) ∧ ∀ t, Steps p.tables e below (T42.setTop (mkF m 95 #[.val (.long ta), .second, .val (.long tb), .second, .val (.long tc), .second, .val (.long td), .second, .val (.int pi), .val (.int qi), .val (.ref b1), .val (.ref b2), .val (.ref b3), .val (.int (1 : Int32))] [(.int e2), (.int (own_bi (td < ta)))])) t → Steps p.tables e below (s₁.setTop (entryFrame m #[(.long ta), (.long tb), (.long tc), (.long td), (.int pi), (.int qi)] maxLocals)) t := by
    have pre43 : ∀ t, Steps p.tables e below (T40.setTop (mkF m 87 #[.val (.long ta), .second, .val (.long tb), .second, .val (.long tc), .second, .val (.long td), .second, .val (.int pi), .val (.int qi), .val (.ref b1), .val (.ref b2), .val (.ref b3), .val (.int (1 : Int32))] [(.int (XT.cmpL td ta)), (.int (own_bi (td < ta)))])) t → Steps p.tables e below (s₁.setTop (entryFrame m #[(.long ta), (.long tb), (.long tc), (.long td), (.int pi), (.int qi)] maxLocals)) t := by
      intro t k
      refine pre41 t ?_
      refine XT.lload X40.here hx rfl (hb hby at_83) rfl ?_
      show Steps p.tables e below (T40.setTop (mkF m 85 #[.val (.long ta), .second, .val (.long tb), .second, .val (.long tc), .second, .val (.long td), .second, .val (.int pi), .val (.int qi), .val (.ref b1), .val (.ref b2), .val (.ref b3), .val (.int (1 : Int32))] [(.long td), (.int (own_bi (td < ta)))])) _
      refine XT.lloadN X40.here hx rfl (hb hby at_85) rfl ?_
      show Steps p.tables e below (T40.setTop (mkF m 86 #[.val (.long ta), .second, .val (.long tb), .second, .val (.long tc), .second, .val (.long td), .second, .val (.int pi), .val (.int qi), .val (.ref b1), .val (.ref b2), .val (.ref b3), .val (.int (1 : Int32))] [(.long ta), (.long td), (.int (own_bi (td < ta)))])) _
      refine XT.lcmp X40.here hx rfl (hb hby at_86) rfl ?_
      show Steps p.tables e below (T40.setTop (mkF m 87 #[.val (.long ta), .second, .val (.long tb), .second, .val (.long tc), .second, .val (.long td), .second, .val (.int pi), .val (.int qi), .val (.ref b1), .val (.ref b2), .val (.ref b3), .val (.int (1 : Int32))] [(.int (XT.cmpL td ta)), (.int (own_bi (td < ta)))])) _
      exact k
    by_cases hc87 : td < ta
    · skip
      have pre44 : ∀ t, Steps p.tables e below (T40.setTop (mkF m 95 #[.val (.long ta), .second, .val (.long tb), .second, .val (.long tc), .second, .val (.long td), .second, .val (.int pi), .val (.int qi), .val (.ref b1), .val (.ref b2), .val (.ref b3), .val (.int (1 : Int32))] [(.int (1 : Int32)), (.int (own_bi (td < ta)))])) t → Steps p.tables e below (s₁.setTop (entryFrame m #[(.long ta), (.long tb), (.long tc), (.long td), (.int pi), (.int qi)] maxLocals)) t := by
        intro t k
        refine pre43 t ?_
        refine XS.ifNo X40.here hx rfl (hb hby at_87) rfl (XT.ll_ge_f hc87) ?_
        show Steps p.tables e below (T40.setTop (mkF m 90 #[.val (.long ta), .second, .val (.long tb), .second, .val (.long tc), .second, .val (.long td), .second, .val (.int pi), .val (.int qi), .val (.ref b1), .val (.ref b2), .val (.ref b3), .val (.int (1 : Int32))] [(.int (own_bi (td < ta)))])) _
        refine XS.iconst X40.here hx rfl (hb hby at_90) ?_
        show Steps p.tables e below (T40.setTop (mkF m 91 #[.val (.long ta), .second, .val (.long tb), .second, .val (.long tc), .second, .val (.long td), .second, .val (.int pi), .val (.int qi), .val (.ref b1), .val (.ref b2), .val (.ref b3), .val (.int (1 : Int32))] [(.int (1 : Int32)), (.int (own_bi (td < ta)))])) _
        refine XS.goto X40.here hx rfl (pc0 := 91) (pc' := 95) rfl (hb hby at_91) (by decide) (by decide) ?_
        show Steps p.tables e below (T40.setTop (mkF m 95 #[.val (.long ta), .second, .val (.long tb), .second, .val (.long tc), .second, .val (.long td), .second, .val (.int pi), .val (.int qi), .val (.ref b1), .val (.ref b2), .val (.ref b3), .val (.int (1 : Int32))] [(.int (1 : Int32)), (.int (own_bi (td < ta)))])) _
        exact k
      exact ⟨(1 : Int32), _, _, X40, N40, heq40, (by first | (simp [own_bi, hc87]; done) | contradiction), pre44⟩
    · skip
      have pre45 : ∀ t, Steps p.tables e below (T40.setTop (mkF m 95 #[.val (.long ta), .second, .val (.long tb), .second, .val (.long tc), .second, .val (.long td), .second, .val (.int pi), .val (.int qi), .val (.ref b1), .val (.ref b2), .val (.ref b3), .val (.int (1 : Int32))] [(.int (0 : Int32)), (.int (own_bi (td < ta)))])) t → Steps p.tables e below (s₁.setTop (entryFrame m #[(.long ta), (.long tb), (.long tc), (.long td), (.int pi), (.int qi)] maxLocals)) t := by
        intro t k
        refine pre43 t ?_
        refine XS.ifYes X40.here hx rfl (pc0 := 87) (pc' := 94) rfl (hb hby at_87) rfl (XT.ll_ge_t hc87) (by decide) (by decide) ?_
        show Steps p.tables e below (T40.setTop (mkF m 94 #[.val (.long ta), .second, .val (.long tb), .second, .val (.long tc), .second, .val (.long td), .second, .val (.int pi), .val (.int qi), .val (.ref b1), .val (.ref b2), .val (.ref b3), .val (.int (1 : Int32))] [(.int (own_bi (td < ta)))])) _
        refine XS.iconst X40.here hx rfl (hb hby at_94) ?_
        show Steps p.tables e below (T40.setTop (mkF m 95 #[.val (.long ta), .second, .val (.long tb), .second, .val (.long tc), .second, .val (.long td), .second, .val (.int pi), .val (.int qi), .val (.ref b1), .val (.ref b2), .val (.ref b3), .val (.int (1 : Int32))] [(.int (0 : Int32)), (.int (own_bi (td < ta)))])) _
        exact k
      exact ⟨(0 : Int32), _, _, X40, N40, heq40, (by first | (simp [own_bi, hc87]; done) | contradiction), pre45⟩
  obtain ⟨e2, T42, Lo42, X42, N42, e42, he2, pre42⟩ := mrg42
  have pre47 : ∀ t, Steps p.tables e below (T42.setTop (mkF m 114 #[.val (.long ta), .second, .val (.long tb), .second, .val (.long tc), .second, .val (.long td), .second, .val (.int pi), .val (.int qi), .val (.ref b1), .val (.ref b2), .val (.ref b3), .val (.int (1 : Int32))] [(.ref b1), (.ref b1)])) t → Steps p.tables e below (s₁.setTop (entryFrame m #[(.long ta), (.long tb), (.long tc), (.long td), (.int pi), (.int qi)] maxLocals)) t := by
    intro t k
    refine pre42 t ?_
    refine XS.icmpNo X42.here hx rfl (hb hby at_95) rfl (XT.ii_ne_f he2.symm) ?_
    show Steps p.tables e below (T42.setTop (mkF m 98 #[.val (.long ta), .second, .val (.long tb), .second, .val (.long tc), .second, .val (.long td), .second, .val (.int pi), .val (.int qi), .val (.ref b1), .val (.ref b2), .val (.ref b3), .val (.int (1 : Int32))] [])) _
    refine XS.iconst X42.here hx rfl (hb hby at_98) ?_
    show Steps p.tables e below (T42.setTop (mkF m 99 #[.val (.long ta), .second, .val (.long tb), .second, .val (.long tc), .second, .val (.long td), .second, .val (.int pi), .val (.int qi), .val (.ref b1), .val (.ref b2), .val (.ref b3), .val (.int (1 : Int32))] [(.int (1 : Int32))])) _
    refine XS.goto X42.here hx rfl (pc0 := 99) (pc' := 103) rfl (hb hby at_99) (by decide) (by decide) ?_
    show Steps p.tables e below (T42.setTop (mkF m 103 #[.val (.long ta), .second, .val (.long tb), .second, .val (.long tc), .second, .val (.long td), .second, .val (.int pi), .val (.int qi), .val (.ref b1), .val (.ref b2), .val (.ref b3), .val (.int (1 : Int32))] [(.int (1 : Int32))])) _
    refine XS.istore X42.here hx rfl (hb hby at_103) rfl (l' := #[.val (.long ta), .second, .val (.long tb), .second, .val (.long tc), .second, .val (.long td), .second, .val (.int pi), .val (.int qi), .val (.ref b1), .val (.ref b2), .val (.ref b3), .val (.int (1 : Int32))]) rfl ?_
    show Steps p.tables e below (T42.setTop (mkF m 105 #[.val (.long ta), .second, .val (.long tb), .second, .val (.long tc), .second, .val (.long td), .second, .val (.int pi), .val (.int qi), .val (.ref b1), .val (.ref b2), .val (.ref b3), .val (.int (1 : Int32))] [])) _
    refine XS.iload X42.here hx rfl (hb hby at_105) rfl ?_
    show Steps p.tables e below (T42.setTop (mkF m 107 #[.val (.long ta), .second, .val (.long tb), .second, .val (.long tc), .second, .val (.long td), .second, .val (.int pi), .val (.int qi), .val (.ref b1), .val (.ref b2), .val (.ref b3), .val (.int (1 : Int32))] [(.int (1 : Int32))])) _
    refine XS.ifNo X42.here hx rfl (hb hby at_107) rfl (XT.i0_eq_f (by decide)) ?_
    show Steps p.tables e below (T42.setTop (mkF m 110 #[.val (.long ta), .second, .val (.long tb), .second, .val (.long tc), .second, .val (.long td), .second, .val (.int pi), .val (.int qi), .val (.ref b1), .val (.ref b2), .val (.ref b3), .val (.int (1 : Int32))] [])) _
    refine XS.aload X42.here hx rfl (hb hby at_110) rfl rfl ?_
    show Steps p.tables e below (T42.setTop (mkF m 112 #[.val (.long ta), .second, .val (.long tb), .second, .val (.long tc), .second, .val (.long td), .second, .val (.int pi), .val (.int qi), .val (.ref b1), .val (.ref b2), .val (.ref b3), .val (.int (1 : Int32))] [(.ref b1)])) _
    refine XS.aload X42.here hx rfl (hb hby at_112) rfl rfl ?_
    show Steps p.tables e below (T42.setTop (mkF m 114 #[.val (.long ta), .second, .val (.long tb), .second, .val (.long tc), .second, .val (.long td), .second, .val (.int pi), .val (.int qi), .val (.ref b1), .val (.ref b2), .val (.ref b3), .val (.int (1 : Int32))] [(.ref b1), (.ref b1)])) _
    exact k
  obtain ⟨cq49, kq49, q49a, q49b, q49c⟩ := isOf hZ e42 E27_0
  obtain ⟨_, _, ⟨T49, L49, k49, n49⟩, -, X49, ⟨Lc49, hQ49, l49, y49, z49⟩, st49⟩ := X42.virtualBack hx (y := (⟨"com/example/firmline/firmline/Call", "precedes", "(Lcom/example/firmline/firmline/Call;)Z"⟩ : MethodName)) (z := (⟨"com/example/firmline/firmline/Call", "precedes", "(Lcom/example/firmline/firmline/Call;)Z"⟩ : MethodName)) hown (mvT hZ (hw _ (List.mem_of_getElem? (i := 30) rfl))) (mvT hZ (hw _ (List.mem_of_getElem? (i := 31) rfl))) (notFace_of_selects (args := #[]) (mvT hZ (hw _ (List.mem_of_getElem? (i := 33) rfl)))) (mvT hZ (hw _ (List.mem_of_getElem? (i := 33) rfl))) (mvT hZ (hw _ (List.mem_of_getElem? (i := 32) rfl))) (by decide) (backOf (W := 0) (rm5 l Z a0 hw [] b1 b1 tb ta h25 n0 Z27 F27_4 F27_3) hZ (hw _ (List.mem_of_getElem? (i := 34) rfl)) (hw _ (List.mem_of_getElem? (i := 2) rfl)) (by decide) (by decide)) q49a q49c (g := (mkF m 114 #[.val (.long ta), .second, .val (.long tb), .second, .val (.long tc), .second, .val (.long td), .second, .val (.int pi), .val (.int qi), .val (.ref b1), .val (.ref b2), .val (.ref b3), .val (.int (1 : Int32))] [(.ref b1), (.ref b1)])) rfl (by rw [hml]; rfl) (Steps.refl _) (argsL := [(.ref b1)]) (rest := []) (lenOf pd_pre rfl) rfl (by show 2 * 0 + _ ≤ _; exact Nat.le_of_eq rfl) (hb hby at_114) (fun _ _ => ⟨rfl, e42, (by decide : 3 + 0 ≤ _), (by decide : 15 + 0 ≤ _)⟩)
  dsimp only [Pt.U, Pt.locs, Pt.cells, Pt.slots] at X49 l49 y49 z49 st49 hQ49
  subst l49 y49 z49
  obtain ⟨rfl, Nq49, heq49⟩ := hQ49
  have N49 := Fr.app N42 Nq49
  have pre50 : ∀ t, Steps p.tables e below (T49.setTop (mkF m 117 #[.val (.long ta), .second, .val (.long tb), .second, .val (.long tc), .second, .val (.long td), .second, .val (.int pi), .val (.int qi), .val (.ref b1), .val (.ref b2), .val (.ref b3), .val (.int (1 : Int32))] [(.int (own_bi (tb < ta)))])) t → Steps p.tables e below (s₁.setTop (entryFrame m #[(.long ta), (.long tb), (.long tc), (.long td), (.int pi), (.int qi)] maxLocals)) t := fun t k => pre47 t (st49.trans k)
  have mrg51 : ∃ (e3 : Int32) (T51 : State) (Lo51 : List Loc), Stand p l e room_1 s m #[(.long ta), (.long tb), (.long tc), (.long td), (.int pi), (.int qi)] below meth c T51 Lo51 3 15 ∧ Fr n0 Lo51 ∧ T51.heap = h25 ∧ (e3 = own_bi (tb < ta)) ∧ ∀ t, Steps p.tables e below (T51.setTop (mkF m 128 #[.val (.long ta), .second, .val (.long tb), .second, .val (.long tc), .second, .val (.long td), .second, .val (.int pi), .val (.int qi), .val (.ref b1), .val (.ref b2), .val (.ref b3), .val (.int (1 : Int32))] [(.int e3), (.int (own_bi (tb < ta)))])) t → Steps p.tables e below (s₁.setTop (entryFrame m #[(.long ta), (.long tb), (.long tc), (.long td), (.int pi), (.int qi)] maxLocals)) t := by
    have pre52 : ∀ t, Steps p.tables e below (T49.setTop (mkF m 120 #[.val (.long ta), .second, .val (.long tb), .second, .val (.long tc), .second, .val (.long td), .second, .val (.int pi), .val (.int qi), .val (.ref b1), .val (.ref b2), .val (.ref b3), .val (.int (1 : Int32))] [(.int (XT.cmpL tb ta)), (.int (own_bi (tb < ta)))])) t → Steps p.tables e below (s₁.setTop (entryFrame m #[(.long ta), (.long tb), (.long tc), (.long td), (.int pi), (.int qi)] maxLocals)) t := by
      intro t k
      refine pre50 t ?_
      refine XT.lloadN X49.here hx rfl (hb hby at_117) rfl ?_
      show Steps p.tables e below (T49.setTop (mkF m 118 #[.val (.long ta), .second, .val (.long tb), .second, .val (.long tc), .second, .val (.long td), .second, .val (.int pi), .val (.int qi), .val (.ref b1), .val (.ref b2), .val (.ref b3), .val (.int (1 : Int32))] [(.long tb), (.int (own_bi (tb < ta)))])) _
      refine XT.lloadN X49.here hx rfl (hb hby at_118) rfl ?_
      show Steps p.tables e below (T49.setTop (mkF m 119 #[.val (.long ta), .second, .val (.long tb), .second, .val (.long tc), .second, .val (.long td), .second, .val (.int pi), .val (.int qi), .val (.ref b1), .val (.ref b2), .val (.ref b3), .val (.int (1 : Int32))] [(.long ta), (.long tb), (.int (own_bi (tb < ta)))])) _
      refine XT.lcmp X49.here hx rfl (hb hby at_119) rfl ?_
      show Steps p.tables e below (T49.setTop (mkF m 120 #[.val (.long ta), .second, .val (.long tb), .second, .val (.long tc), .second, .val (.long td), .second, .val (.int pi), .val (.int qi), .val (.ref b1), .val (.ref b2), .val (.ref b3), .val (.int (1 : Int32))] [(.int (XT.cmpL tb ta)), (.int (own_bi (tb < ta)))])) _
      exact k
    by_cases hc120 : tb < ta
    · skip
      have pre53 : ∀ t, Steps p.tables e below (T49.setTop (mkF m 128 #[.val (.long ta), .second, .val (.long tb), .second, .val (.long tc), .second, .val (.long td), .second, .val (.int pi), .val (.int qi), .val (.ref b1), .val (.ref b2), .val (.ref b3), .val (.int (1 : Int32))] [(.int (1 : Int32)), (.int (own_bi (tb < ta)))])) t → Steps p.tables e below (s₁.setTop (entryFrame m #[(.long ta), (.long tb), (.long tc), (.long td), (.int pi), (.int qi)] maxLocals)) t := by
        intro t k
        refine pre52 t ?_
        refine XS.ifNo X49.here hx rfl (hb hby at_120) rfl (XT.ll_ge_f hc120) ?_
        show Steps p.tables e below (T49.setTop (mkF m 123 #[.val (.long ta), .second, .val (.long tb), .second, .val (.long tc), .second, .val (.long td), .second, .val (.int pi), .val (.int qi), .val (.ref b1), .val (.ref b2), .val (.ref b3), .val (.int (1 : Int32))] [(.int (own_bi (tb < ta)))])) _
        refine XS.iconst X49.here hx rfl (hb hby at_123) ?_
        show Steps p.tables e below (T49.setTop (mkF m 124 #[.val (.long ta), .second, .val (.long tb), .second, .val (.long tc), .second, .val (.long td), .second, .val (.int pi), .val (.int qi), .val (.ref b1), .val (.ref b2), .val (.ref b3), .val (.int (1 : Int32))] [(.int (1 : Int32)), (.int (own_bi (tb < ta)))])) _
        refine XS.goto X49.here hx rfl (pc0 := 124) (pc' := 128) rfl (hb hby at_124) (by decide) (by decide) ?_
        show Steps p.tables e below (T49.setTop (mkF m 128 #[.val (.long ta), .second, .val (.long tb), .second, .val (.long tc), .second, .val (.long td), .second, .val (.int pi), .val (.int qi), .val (.ref b1), .val (.ref b2), .val (.ref b3), .val (.int (1 : Int32))] [(.int (1 : Int32)), (.int (own_bi (tb < ta)))])) _
        exact k
      exact ⟨(1 : Int32), _, _, X49, N49, heq49, (by first | (simp [own_bi, hc120]; done) | contradiction), pre53⟩
    · skip
      have pre54 : ∀ t, Steps p.tables e below (T49.setTop (mkF m 128 #[.val (.long ta), .second, .val (.long tb), .second, .val (.long tc), .second, .val (.long td), .second, .val (.int pi), .val (.int qi), .val (.ref b1), .val (.ref b2), .val (.ref b3), .val (.int (1 : Int32))] [(.int (0 : Int32)), (.int (own_bi (tb < ta)))])) t → Steps p.tables e below (s₁.setTop (entryFrame m #[(.long ta), (.long tb), (.long tc), (.long td), (.int pi), (.int qi)] maxLocals)) t := by
        intro t k
        refine pre52 t ?_
        refine XS.ifYes X49.here hx rfl (pc0 := 120) (pc' := 127) rfl (hb hby at_120) rfl (XT.ll_ge_t hc120) (by decide) (by decide) ?_
        show Steps p.tables e below (T49.setTop (mkF m 127 #[.val (.long ta), .second, .val (.long tb), .second, .val (.long tc), .second, .val (.long td), .second, .val (.int pi), .val (.int qi), .val (.ref b1), .val (.ref b2), .val (.ref b3), .val (.int (1 : Int32))] [(.int (own_bi (tb < ta)))])) _
        refine XS.iconst X49.here hx rfl (hb hby at_127) ?_
        show Steps p.tables e below (T49.setTop (mkF m 128 #[.val (.long ta), .second, .val (.long tb), .second, .val (.long tc), .second, .val (.long td), .second, .val (.int pi), .val (.int qi), .val (.ref b1), .val (.ref b2), .val (.ref b3), .val (.int (1 : Int32))] [(.int (0 : Int32)), (.int (own_bi (tb < ta)))])) _
        exact k
      exact ⟨(0 : Int32), _, _, X49, N49, heq49, (by first | (simp [own_bi, hc120]; done) | contradiction), pre54⟩
  obtain ⟨e3, T51, Lo51, X51, N51, e51, he3, pre51⟩ := mrg51
  have pre56 : ∀ t, Steps p.tables e below (T51.setTop (mkF m 147 #[.val (.long ta), .second, .val (.long tb), .second, .val (.long tc), .second, .val (.long td), .second, .val (.int pi), .val (.int qi), .val (.ref b1), .val (.ref b2), .val (.ref b3), .val (.int (1 : Int32))] [(.ref b1), (.ref b3)])) t → Steps p.tables e below (s₁.setTop (entryFrame m #[(.long ta), (.long tb), (.long tc), (.long td), (.int pi), (.int qi)] maxLocals)) t := by
    intro t k
    refine pre51 t ?_
    refine XS.icmpNo X51.here hx rfl (hb hby at_128) rfl (XT.ii_ne_f he3.symm) ?_
    show Steps p.tables e below (T51.setTop (mkF m 131 #[.val (.long ta), .second, .val (.long tb), .second, .val (.long tc), .second, .val (.long td), .second, .val (.int pi), .val (.int qi), .val (.ref b1), .val (.ref b2), .val (.ref b3), .val (.int (1 : Int32))] [])) _
    refine XS.iconst X51.here hx rfl (hb hby at_131) ?_
    show Steps p.tables e below (T51.setTop (mkF m 132 #[.val (.long ta), .second, .val (.long tb), .second, .val (.long tc), .second, .val (.long td), .second, .val (.int pi), .val (.int qi), .val (.ref b1), .val (.ref b2), .val (.ref b3), .val (.int (1 : Int32))] [(.int (1 : Int32))])) _
    refine XS.goto X51.here hx rfl (pc0 := 132) (pc' := 136) rfl (hb hby at_132) (by decide) (by decide) ?_
    show Steps p.tables e below (T51.setTop (mkF m 136 #[.val (.long ta), .second, .val (.long tb), .second, .val (.long tc), .second, .val (.long td), .second, .val (.int pi), .val (.int qi), .val (.ref b1), .val (.ref b2), .val (.ref b3), .val (.int (1 : Int32))] [(.int (1 : Int32))])) _
    refine XS.istore X51.here hx rfl (hb hby at_136) rfl (l' := #[.val (.long ta), .second, .val (.long tb), .second, .val (.long tc), .second, .val (.long td), .second, .val (.int pi), .val (.int qi), .val (.ref b1), .val (.ref b2), .val (.ref b3), .val (.int (1 : Int32))]) rfl ?_
    show Steps p.tables e below (T51.setTop (mkF m 138 #[.val (.long ta), .second, .val (.long tb), .second, .val (.long tc), .second, .val (.long td), .second, .val (.int pi), .val (.int qi), .val (.ref b1), .val (.ref b2), .val (.ref b3), .val (.int (1 : Int32))] [])) _
    refine XS.iload X51.here hx rfl (hb hby at_138) rfl ?_
    show Steps p.tables e below (T51.setTop (mkF m 140 #[.val (.long ta), .second, .val (.long tb), .second, .val (.long tc), .second, .val (.long td), .second, .val (.int pi), .val (.int qi), .val (.ref b1), .val (.ref b2), .val (.ref b3), .val (.int (1 : Int32))] [(.int (1 : Int32))])) _
    refine XS.ifNo X51.here hx rfl (hb hby at_140) rfl (XT.i0_eq_f (by decide)) ?_
    show Steps p.tables e below (T51.setTop (mkF m 143 #[.val (.long ta), .second, .val (.long tb), .second, .val (.long tc), .second, .val (.long td), .second, .val (.int pi), .val (.int qi), .val (.ref b1), .val (.ref b2), .val (.ref b3), .val (.int (1 : Int32))] [])) _
    refine XS.aload X51.here hx rfl (hb hby at_143) rfl rfl ?_
    show Steps p.tables e below (T51.setTop (mkF m 145 #[.val (.long ta), .second, .val (.long tb), .second, .val (.long tc), .second, .val (.long td), .second, .val (.int pi), .val (.int qi), .val (.ref b1), .val (.ref b2), .val (.ref b3), .val (.int (1 : Int32))] [(.ref b3)])) _
    refine XS.aload X51.here hx rfl (hb hby at_145) rfl rfl ?_
    show Steps p.tables e below (T51.setTop (mkF m 147 #[.val (.long ta), .second, .val (.long tb), .second, .val (.long tc), .second, .val (.long td), .second, .val (.int pi), .val (.int qi), .val (.ref b1), .val (.ref b2), .val (.ref b3), .val (.int (1 : Int32))] [(.ref b1), (.ref b3)])) _
    exact k
  obtain ⟨cq58, kq58, q58a, q58b, q58c⟩ := isOf hZ e51 Aq25
  obtain ⟨_, _, ⟨T58, L58, k58, n58⟩, -, X58, ⟨Lc58, hQ58, l58, y58, z58⟩, st58⟩ := X51.virtualBack hx (y := (⟨"com/example/firmline/firmline/Call", "precedes", "(Lcom/example/firmline/firmline/Call;)Z"⟩ : MethodName)) (z := (⟨"com/example/firmline/firmline/Call", "precedes", "(Lcom/example/firmline/firmline/Call;)Z"⟩ : MethodName)) hown (mvT hZ (hw _ (List.mem_of_getElem? (i := 30) rfl))) (mvT hZ (hw _ (List.mem_of_getElem? (i := 31) rfl))) (notFace_of_selects (args := #[]) (mvT hZ (hw _ (List.mem_of_getElem? (i := 33) rfl)))) (mvT hZ (hw _ (List.mem_of_getElem? (i := 33) rfl))) (mvT hZ (hw _ (List.mem_of_getElem? (i := 32) rfl))) (by decide) (backOf (W := 0) (rm5 l Z a0 hw [] b3 b1 (9223372036854775807 : Int64) ta h25 n0 Z27 Fr25 F27_3) hZ (hw _ (List.mem_of_getElem? (i := 34) rfl)) (hw _ (List.mem_of_getElem? (i := 2) rfl)) (by decide) (by decide)) q58a q58c (g := (mkF m 147 #[.val (.long ta), .second, .val (.long tb), .second, .val (.long tc), .second, .val (.long td), .second, .val (.int pi), .val (.int qi), .val (.ref b1), .val (.ref b2), .val (.ref b3), .val (.int (1 : Int32))] [(.ref b1), (.ref b3)])) rfl (by rw [hml]; rfl) (Steps.refl _) (argsL := [(.ref b1)]) (rest := []) (lenOf pd_pre rfl) rfl (by show 2 * 0 + _ ≤ _; exact Nat.le_of_eq rfl) (hb hby at_147) (fun _ _ => ⟨rfl, e51, (by decide : 3 + 0 ≤ _), (by decide : 15 + 0 ≤ _)⟩)
  dsimp only [Pt.U, Pt.locs, Pt.cells, Pt.slots] at X58 l58 y58 z58 st58 hQ58
  subst l58 y58 z58
  obtain ⟨rfl, Nq58, heq58⟩ := hQ58
  have N58 := Fr.app N51 Nq58
  have pre59 : ∀ t, Steps p.tables e below (T58.setTop (mkF m 150 #[.val (.long ta), .second, .val (.long tb), .second, .val (.long tc), .second, .val (.long td), .second, .val (.int pi), .val (.int qi), .val (.ref b1), .val (.ref b2), .val (.ref b3), .val (.int (1 : Int32))] [(.int (own_bi ((9223372036854775807 : Int64) < ta)))])) t → Steps p.tables e below (s₁.setTop (entryFrame m #[(.long ta), (.long tb), (.long tc), (.long td), (.int pi), (.int qi)] maxLocals)) t := fun t k => pre56 t (st58.trans k)
  have pre61 : ∀ t, Steps p.tables e below (T58.setTop (mkF m 169 #[.val (.long ta), .second, .val (.long tb), .second, .val (.long tc), .second, .val (.long td), .second, .val (.int pi), .val (.int qi), .val (.ref b1), .val (.ref b2), .val (.ref b3), .val (.int (1 : Int32))] [(.ref b3), (.ref b1)])) t → Steps p.tables e below (s₁.setTop (entryFrame m #[(.long ta), (.long tb), (.long tc), (.long td), (.int pi), (.int qi)] maxLocals)) t := by
    intro t k
    refine pre59 t ?_
    refine XS.ifNo X58.here hx rfl (hb hby at_150) rfl (XT.i0_ne_f (own_bi_f (own_max _))) ?_
    show Steps p.tables e below (T58.setTop (mkF m 153 #[.val (.long ta), .second, .val (.long tb), .second, .val (.long tc), .second, .val (.long td), .second, .val (.int pi), .val (.int qi), .val (.ref b1), .val (.ref b2), .val (.ref b3), .val (.int (1 : Int32))] [])) _
    refine XS.iconst X58.here hx rfl (hb hby at_153) ?_
    show Steps p.tables e below (T58.setTop (mkF m 154 #[.val (.long ta), .second, .val (.long tb), .second, .val (.long tc), .second, .val (.long td), .second, .val (.int pi), .val (.int qi), .val (.ref b1), .val (.ref b2), .val (.ref b3), .val (.int (1 : Int32))] [(.int (1 : Int32))])) _
    refine XS.goto X58.here hx rfl (pc0 := 154) (pc' := 158) rfl (hb hby at_154) (by decide) (by decide) ?_
    show Steps p.tables e below (T58.setTop (mkF m 158 #[.val (.long ta), .second, .val (.long tb), .second, .val (.long tc), .second, .val (.long td), .second, .val (.int pi), .val (.int qi), .val (.ref b1), .val (.ref b2), .val (.ref b3), .val (.int (1 : Int32))] [(.int (1 : Int32))])) _
    refine XS.istore X58.here hx rfl (hb hby at_158) rfl (l' := #[.val (.long ta), .second, .val (.long tb), .second, .val (.long tc), .second, .val (.long td), .second, .val (.int pi), .val (.int qi), .val (.ref b1), .val (.ref b2), .val (.ref b3), .val (.int (1 : Int32))]) rfl ?_
    show Steps p.tables e below (T58.setTop (mkF m 160 #[.val (.long ta), .second, .val (.long tb), .second, .val (.long tc), .second, .val (.long td), .second, .val (.int pi), .val (.int qi), .val (.ref b1), .val (.ref b2), .val (.ref b3), .val (.int (1 : Int32))] [])) _
    refine XS.iload X58.here hx rfl (hb hby at_160) rfl ?_
    show Steps p.tables e below (T58.setTop (mkF m 162 #[.val (.long ta), .second, .val (.long tb), .second, .val (.long tc), .second, .val (.long td), .second, .val (.int pi), .val (.int qi), .val (.ref b1), .val (.ref b2), .val (.ref b3), .val (.int (1 : Int32))] [(.int (1 : Int32))])) _
    refine XS.ifNo X58.here hx rfl (hb hby at_162) rfl (XT.i0_eq_f (by decide)) ?_
    show Steps p.tables e below (T58.setTop (mkF m 165 #[.val (.long ta), .second, .val (.long tb), .second, .val (.long tc), .second, .val (.long td), .second, .val (.int pi), .val (.int qi), .val (.ref b1), .val (.ref b2), .val (.ref b3), .val (.int (1 : Int32))] [])) _
    refine XS.aload X58.here hx rfl (hb hby at_165) rfl rfl ?_
    show Steps p.tables e below (T58.setTop (mkF m 167 #[.val (.long ta), .second, .val (.long tb), .second, .val (.long tc), .second, .val (.long td), .second, .val (.int pi), .val (.int qi), .val (.ref b1), .val (.ref b2), .val (.ref b3), .val (.int (1 : Int32))] [(.ref b1)])) _
    refine XS.aload X58.here hx rfl (hb hby at_167) rfl rfl ?_
    show Steps p.tables e below (T58.setTop (mkF m 169 #[.val (.long ta), .second, .val (.long tb), .second, .val (.long tc), .second, .val (.long td), .second, .val (.int pi), .val (.int qi), .val (.ref b1), .val (.ref b2), .val (.ref b3), .val (.int (1 : Int32))] [(.ref b3), (.ref b1)])) _
    exact k
  obtain ⟨cq63, kq63, q63a, q63b, q63c⟩ := isOf hZ heq58 E27_0
  obtain ⟨_, _, ⟨T63, L63, k63, n63⟩, -, X63, ⟨Lc63, hQ63, l63, y63, z63⟩, st63⟩ := X58.virtualBack hx (y := (⟨"com/example/firmline/firmline/Call", "precedes", "(Lcom/example/firmline/firmline/Call;)Z"⟩ : MethodName)) (z := (⟨"com/example/firmline/firmline/Call", "precedes", "(Lcom/example/firmline/firmline/Call;)Z"⟩ : MethodName)) hown (mvT hZ (hw _ (List.mem_of_getElem? (i := 30) rfl))) (mvT hZ (hw _ (List.mem_of_getElem? (i := 31) rfl))) (notFace_of_selects (args := #[]) (mvT hZ (hw _ (List.mem_of_getElem? (i := 33) rfl)))) (mvT hZ (hw _ (List.mem_of_getElem? (i := 33) rfl))) (mvT hZ (hw _ (List.mem_of_getElem? (i := 32) rfl))) (by decide) (backOf (W := 0) (rm5 l Z a0 hw [] b1 b3 tb tc h25 n0 Z27 F27_4 Fi25) hZ (hw _ (List.mem_of_getElem? (i := 34) rfl)) (hw _ (List.mem_of_getElem? (i := 2) rfl)) (by decide) (by decide)) q63a q63c (g := (mkF m 169 #[.val (.long ta), .second, .val (.long tb), .second, .val (.long tc), .second, .val (.long td), .second, .val (.int pi), .val (.int qi), .val (.ref b1), .val (.ref b2), .val (.ref b3), .val (.int (1 : Int32))] [(.ref b3), (.ref b1)])) rfl (by rw [hml]; rfl) (Steps.refl _) (argsL := [(.ref b3)]) (rest := []) (lenOf pd_pre rfl) rfl (by show 2 * 0 + _ ≤ _; exact Nat.le_of_eq rfl) (hb hby at_169) (fun _ _ => ⟨rfl, heq58, (by decide : 3 + 0 ≤ _), (by decide : 15 + 0 ≤ _)⟩)
  dsimp only [Pt.U, Pt.locs, Pt.cells, Pt.slots] at X63 l63 y63 z63 st63 hQ63
  subst l63 y63 z63
  obtain ⟨rfl, Nq63, heq63⟩ := hQ63
  have N63 := Fr.app N58 Nq63
  have pre64 : ∀ t, Steps p.tables e below (T63.setTop (mkF m 172 #[.val (.long ta), .second, .val (.long tb), .second, .val (.long tc), .second, .val (.long td), .second, .val (.int pi), .val (.int qi), .val (.ref b1), .val (.ref b2), .val (.ref b3), .val (.int (1 : Int32))] [(.int (own_bi (tb < tc)))])) t → Steps p.tables e below (s₁.setTop (entryFrame m #[(.long ta), (.long tb), (.long tc), (.long td), (.int pi), (.int qi)] maxLocals)) t := fun t k => pre61 t (st63.trans k)
  have mrg65 : ∃ (e4 : Int32) (T65 : State) (Lo65 : List Loc), Stand p l e room_1 s m #[(.long ta), (.long tb), (.long tc), (.long td), (.int pi), (.int qi)] below meth c T65 Lo65 3 15 ∧ Fr n0 Lo65 ∧ T65.heap = h25 ∧ (e4 = own_bi (tb < tc)) ∧ ∀ t, Steps p.tables e below (T65.setTop (mkF m 184 #[.val (.long ta), .second, .val (.long tb), .second, .val (.long tc), .second, .val (.long td), .second, .val (.int pi), .val (.int qi), .val (.ref b1), .val (.ref b2), .val (.ref b3), .val (.int (1 : Int32))] [(.int e4), (.int (own_bi (tb < tc)))])) t → Steps p.tables e below (s₁.setTop (entryFrame m #[(.long ta), (.long tb), (.long tc), (.long td), (.int pi), (.int qi)] maxLocals)) t := by
    have pre66 : ∀ t, Steps p.tables e below (T63.setTop (mkF m 176 #[.val (.long ta), .second, .val (.long tb), .second, .val (.long tc), .second, .val (.long td), .second, .val (.int pi), .val (.int qi), .val (.ref b1), .val (.ref b2), .val (.ref b3), .val (.int (1 : Int32))] [(.int (XT.cmpL tb tc)), (.int (own_bi (tb < tc)))])) t → Steps p.tables e below (s₁.setTop (entryFrame m #[(.long ta), (.long tb), (.long tc), (.long td), (.int pi), (.int qi)] maxLocals)) t := by
      intro t k
      refine pre64 t ?_
      refine XT.lloadN X63.here hx rfl (hb hby at_172) rfl ?_
      show Steps p.tables e below (T63.setTop (mkF m 173 #[.val (.long ta), .second, .val (.long tb), .second, .val (.long tc), .second, .val (.long td), .second, .val (.int pi), .val (.int qi), .val (.ref b1), .val (.ref b2), .val (.ref b3), .val (.int (1 : Int32))] [(.long tb), (.int (own_bi (tb < tc)))])) _
      refine XT.lload X63.here hx rfl (hb hby at_173) rfl ?_
      show Steps p.tables e below (T63.setTop (mkF m 175 #[.val (.long ta), .second, .val (.long tb), .second, .val (.long tc), .second, .val (.long td), .second, .val (.int pi), .val (.int qi), .val (.ref b1), .val (.ref b2), .val (.ref b3), .val (.int (1 : Int32))] [(.long tc), (.long tb), (.int (own_bi (tb < tc)))])) _
      refine XT.lcmp X63.here hx rfl (hb hby at_175) rfl ?_
      show Steps p.tables e below (T63.setTop (mkF m 176 #[.val (.long ta), .second, .val (.long tb), .second, .val (.long tc), .second, .val (.long td), .second, .val (.int pi), .val (.int qi), .val (.ref b1), .val (.ref b2), .val (.ref b3), .val (.int (1 : Int32))] [(.int (XT.cmpL tb tc)), (.int (own_bi (tb < tc)))])) _
      exact k
    by_cases hc176 : tb < tc
    · skip
      have pre67 : ∀ t, Steps p.tables e below (T63.setTop (mkF m 184 #[.val (.long ta), .second, .val (.long tb), .second, .val (.long tc), .second, .val (.long td), .second, .val (.int pi), .val (.int qi), .val (.ref b1), .val (.ref b2), .val (.ref b3), .val (.int (1 : Int32))] [(.int (1 : Int32)), (.int (own_bi (tb < tc)))])) t → Steps p.tables e below (s₁.setTop (entryFrame m #[(.long ta), (.long tb), (.long tc), (.long td), (.int pi), (.int qi)] maxLocals)) t := by
        intro t k
        refine pre66 t ?_
        refine XS.ifNo X63.here hx rfl (hb hby at_176) rfl (XT.ll_ge_f hc176) ?_
        show Steps p.tables e below (T63.setTop (mkF m 179 #[.val (.long ta), .second, .val (.long tb), .second, .val (.long tc), .second, .val (.long td), .second, .val (.int pi), .val (.int qi), .val (.ref b1), .val (.ref b2), .val (.ref b3), .val (.int (1 : Int32))] [(.int (own_bi (tb < tc)))])) _
        refine XS.iconst X63.here hx rfl (hb hby at_179) ?_
        show Steps p.tables e below (T63.setTop (mkF m 180 #[.val (.long ta), .second, .val (.long tb), .second, .val (.long tc), .second, .val (.long td), .second, .val (.int pi), .val (.int qi), .val (.ref b1), .val (.ref b2), .val (.ref b3), .val (.int (1 : Int32))] [(.int (1 : Int32)), (.int (own_bi (tb < tc)))])) _
        refine XS.goto X63.here hx rfl (pc0 := 180) (pc' := 184) rfl (hb hby at_180) (by decide) (by decide) ?_
        show Steps p.tables e below (T63.setTop (mkF m 184 #[.val (.long ta), .second, .val (.long tb), .second, .val (.long tc), .second, .val (.long td), .second, .val (.int pi), .val (.int qi), .val (.ref b1), .val (.ref b2), .val (.ref b3), .val (.int (1 : Int32))] [(.int (1 : Int32)), (.int (own_bi (tb < tc)))])) _
        exact k
      exact ⟨(1 : Int32), _, _, X63, N63, heq63, (by first | (simp [own_bi, hc176]; done) | contradiction), pre67⟩
    · skip
      have pre68 : ∀ t, Steps p.tables e below (T63.setTop (mkF m 184 #[.val (.long ta), .second, .val (.long tb), .second, .val (.long tc), .second, .val (.long td), .second, .val (.int pi), .val (.int qi), .val (.ref b1), .val (.ref b2), .val (.ref b3), .val (.int (1 : Int32))] [(.int (0 : Int32)), (.int (own_bi (tb < tc)))])) t → Steps p.tables e below (s₁.setTop (entryFrame m #[(.long ta), (.long tb), (.long tc), (.long td), (.int pi), (.int qi)] maxLocals)) t := by
        intro t k
        refine pre66 t ?_
        refine XS.ifYes X63.here hx rfl (pc0 := 176) (pc' := 183) rfl (hb hby at_176) rfl (XT.ll_ge_t hc176) (by decide) (by decide) ?_
        show Steps p.tables e below (T63.setTop (mkF m 183 #[.val (.long ta), .second, .val (.long tb), .second, .val (.long tc), .second, .val (.long td), .second, .val (.int pi), .val (.int qi), .val (.ref b1), .val (.ref b2), .val (.ref b3), .val (.int (1 : Int32))] [(.int (own_bi (tb < tc)))])) _
        refine XS.iconst X63.here hx rfl (hb hby at_183) ?_
        show Steps p.tables e below (T63.setTop (mkF m 184 #[.val (.long ta), .second, .val (.long tb), .second, .val (.long tc), .second, .val (.long td), .second, .val (.int pi), .val (.int qi), .val (.ref b1), .val (.ref b2), .val (.ref b3), .val (.int (1 : Int32))] [(.int (0 : Int32)), (.int (own_bi (tb < tc)))])) _
        exact k
      exact ⟨(0 : Int32), _, _, X63, N63, heq63, (by first | (simp [own_bi, hc176]; done) | contradiction), pre68⟩
  obtain ⟨e4, T65, Lo65, X65, N65, e65, he4, pre65⟩ := mrg65
  have pre69 : ∀ t, Steps p.tables e below (T65.setTop (mkF m 197 #[.val (.long ta), .second, .val (.long tb), .second, .val (.long tc), .second, .val (.long td), .second, .val (.int pi), .val (.int qi), .val (.ref b1), .val (.ref b2), .val (.ref b3), .val (.int (1 : Int32))] [(.int (XT.cmpL ta tb))])) t → Steps p.tables e below (s₁.setTop (entryFrame m #[(.long ta), (.long tb), (.long tc), (.long td), (.int pi), (.int qi)] maxLocals)) t := by
    intro t k
    refine pre65 t ?_
    refine XS.icmpNo X65.here hx rfl (hb hby at_184) rfl (XT.ii_ne_f he4.symm) ?_
    show Steps p.tables e below (T65.setTop (mkF m 187 #[.val (.long ta), .second, .val (.long tb), .second, .val (.long tc), .second, .val (.long td), .second, .val (.int pi), .val (.int qi), .val (.ref b1), .val (.ref b2), .val (.ref b3), .val (.int (1 : Int32))] [])) _
    refine XS.iconst X65.here hx rfl (hb hby at_187) ?_
    show Steps p.tables e below (T65.setTop (mkF m 188 #[.val (.long ta), .second, .val (.long tb), .second, .val (.long tc), .second, .val (.long td), .second, .val (.int pi), .val (.int qi), .val (.ref b1), .val (.ref b2), .val (.ref b3), .val (.int (1 : Int32))] [(.int (1 : Int32))])) _
    refine XS.goto X65.here hx rfl (pc0 := 188) (pc' := 192) rfl (hb hby at_188) (by decide) (by decide) ?_
    show Steps p.tables e below (T65.setTop (mkF m 192 #[.val (.long ta), .second, .val (.long tb), .second, .val (.long tc), .second, .val (.long td), .second, .val (.int pi), .val (.int qi), .val (.ref b1), .val (.ref b2), .val (.ref b3), .val (.int (1 : Int32))] [(.int (1 : Int32))])) _
    refine XS.istore X65.here hx rfl (hb hby at_192) rfl (l' := #[.val (.long ta), .second, .val (.long tb), .second, .val (.long tc), .second, .val (.long td), .second, .val (.int pi), .val (.int qi), .val (.ref b1), .val (.ref b2), .val (.ref b3), .val (.int (1 : Int32))]) rfl ?_
    show Steps p.tables e below (T65.setTop (mkF m 194 #[.val (.long ta), .second, .val (.long tb), .second, .val (.long tc), .second, .val (.long td), .second, .val (.int pi), .val (.int qi), .val (.ref b1), .val (.ref b2), .val (.ref b3), .val (.int (1 : Int32))] [])) _
    refine XT.lloadN X65.here hx rfl (hb hby at_194) rfl ?_
    show Steps p.tables e below (T65.setTop (mkF m 195 #[.val (.long ta), .second, .val (.long tb), .second, .val (.long tc), .second, .val (.long td), .second, .val (.int pi), .val (.int qi), .val (.ref b1), .val (.ref b2), .val (.ref b3), .val (.int (1 : Int32))] [(.long ta)])) _
    refine XT.lloadN X65.here hx rfl (hb hby at_195) rfl ?_
    show Steps p.tables e below (T65.setTop (mkF m 196 #[.val (.long ta), .second, .val (.long tb), .second, .val (.long tc), .second, .val (.long td), .second, .val (.int pi), .val (.int qi), .val (.ref b1), .val (.ref b2), .val (.ref b3), .val (.int (1 : Int32))] [(.long tb), (.long ta)])) _
    refine XT.lcmp X65.here hx rfl (hb hby at_196) rfl ?_
    show Steps p.tables e below (T65.setTop (mkF m 197 #[.val (.long ta), .second, .val (.long tb), .second, .val (.long tc), .second, .val (.long td), .second, .val (.int pi), .val (.int qi), .val (.ref b1), .val (.ref b2), .val (.ref b3), .val (.int (1 : Int32))] [(.int (XT.cmpL ta tb))])) _
    exact k
  by_cases hc197 : tb < ta
  · skip
    have pre70 : ∀ t, Steps p.tables e below (T65.setTop (mkF m 242 #[.val (.long ta), .second, .val (.long tb), .second, .val (.long tc), .second, .val (.long td), .second, .val (.int pi), .val (.int qi), .val (.ref b1), .val (.ref b2), .val (.ref b3), .val (.int (1 : Int32))] [(.int (1 : Int32))])) t → Steps p.tables e below (s₁.setTop (entryFrame m #[(.long ta), (.long tb), (.long tc), (.long td), (.int pi), (.int qi)] maxLocals)) t := by
      intro t k
      refine pre69 t ?_
      refine XS.ifYes X65.here hx rfl (pc0 := 197) (pc' := 240) rfl (hb hby at_197) rfl (XT.ll_gt_t hc197) (by decide) (by decide) ?_
      show Steps p.tables e below (T65.setTop (mkF m 240 #[.val (.long ta), .second, .val (.long tb), .second, .val (.long tc), .second, .val (.long td), .second, .val (.int pi), .val (.int qi), .val (.ref b1), .val (.ref b2), .val (.ref b3), .val (.int (1 : Int32))] [])) _
      refine XS.iload X65.here hx rfl (hb hby at_240) rfl ?_
      show Steps p.tables e below (T65.setTop (mkF m 242 #[.val (.long ta), .second, .val (.long tb), .second, .val (.long tc), .second, .val (.long td), .second, .val (.int pi), .val (.int qi), .val (.ref b1), .val (.ref b2), .val (.ref b3), .val (.int (1 : Int32))] [(.int (1 : Int32))])) _
      exact k
    obtain ⟨fs, hr, hrun, hended, hW, hsame⟩ := X65.leave (v := some (.int (1 : Int32))) (fun h => by rw [Bd.returns] at h; cases h)
    refine ⟨_, _, pre70 _ ?_, hrun, hended, _, _, rfl, ?_, ⟨_, rfl⟩, hW, hsame.mono (by decide) (by decide)⟩
    · exact retOut X65 hx Bd.returns rfl (Or.inl ⟨rfl, by simp, _, rfl⟩) (hb hby at_242) hr
    · show Qlaw Z ta tb tc td pi qi h0 n0 _ T65.heap _
      rw [e65]
      exact ⟨rfl, N65⟩
  · skip
    have pre72 : ∀ t, Steps p.tables e below (T65.setTop (mkF m 205 #[.val (.long ta), .second, .val (.long tb), .second, .val (.long tc), .second, .val (.long td), .second, .val (.int pi), .val (.int qi), .val (.ref b1), .val (.ref b2), .val (.ref b3), .val (.int (1 : Int32))] [(.int (XT.cmpL tc td))])) t → Steps p.tables e below (s₁.setTop (entryFrame m #[(.long ta), (.long tb), (.long tc), (.long td), (.int pi), (.int qi)] maxLocals)) t := by
      intro t k
      refine pre69 t ?_
      refine XS.ifNo X65.here hx rfl (hb hby at_197) rfl (XT.ll_gt_f hc197) ?_
      show Steps p.tables e below (T65.setTop (mkF m 200 #[.val (.long ta), .second, .val (.long tb), .second, .val (.long tc), .second, .val (.long td), .second, .val (.int pi), .val (.int qi), .val (.ref b1), .val (.ref b2), .val (.ref b3), .val (.int (1 : Int32))] [])) _
      refine XT.lload X65.here hx rfl (hb hby at_200) rfl ?_
      show Steps p.tables e below (T65.setTop (mkF m 202 #[.val (.long ta), .second, .val (.long tb), .second, .val (.long tc), .second, .val (.long td), .second, .val (.int pi), .val (.int qi), .val (.ref b1), .val (.ref b2), .val (.ref b3), .val (.int (1 : Int32))] [(.long tc)])) _
      refine XT.lload X65.here hx rfl (hb hby at_202) rfl ?_
      show Steps p.tables e below (T65.setTop (mkF m 204 #[.val (.long ta), .second, .val (.long tb), .second, .val (.long tc), .second, .val (.long td), .second, .val (.int pi), .val (.int qi), .val (.ref b1), .val (.ref b2), .val (.ref b3), .val (.int (1 : Int32))] [(.long td), (.long tc)])) _
      refine XT.lcmp X65.here hx rfl (hb hby at_204) rfl ?_
      show Steps p.tables e below (T65.setTop (mkF m 205 #[.val (.long ta), .second, .val (.long tb), .second, .val (.long tc), .second, .val (.long td), .second, .val (.int pi), .val (.int qi), .val (.ref b1), .val (.ref b2), .val (.ref b3), .val (.int (1 : Int32))] [(.int (XT.cmpL tc td))])) _
      exact k
    by_cases hc205 : td < tc
    · skip
      have pre73 : ∀ t, Steps p.tables e below (T65.setTop (mkF m 242 #[.val (.long ta), .second, .val (.long tb), .second, .val (.long tc), .second, .val (.long td), .second, .val (.int pi), .val (.int qi), .val (.ref b1), .val (.ref b2), .val (.ref b3), .val (.int (1 : Int32))] [(.int (1 : Int32))])) t → Steps p.tables e below (s₁.setTop (entryFrame m #[(.long ta), (.long tb), (.long tc), (.long td), (.int pi), (.int qi)] maxLocals)) t := by
        intro t k
        refine pre72 t ?_
        refine XS.ifYes X65.here hx rfl (pc0 := 205) (pc' := 240) rfl (hb hby at_205) rfl (XT.ll_gt_t hc205) (by decide) (by decide) ?_
        show Steps p.tables e below (T65.setTop (mkF m 240 #[.val (.long ta), .second, .val (.long tb), .second, .val (.long tc), .second, .val (.long td), .second, .val (.int pi), .val (.int qi), .val (.ref b1), .val (.ref b2), .val (.ref b3), .val (.int (1 : Int32))] [])) _
        refine XS.iload X65.here hx rfl (hb hby at_240) rfl ?_
        show Steps p.tables e below (T65.setTop (mkF m 242 #[.val (.long ta), .second, .val (.long tb), .second, .val (.long tc), .second, .val (.long td), .second, .val (.int pi), .val (.int qi), .val (.ref b1), .val (.ref b2), .val (.ref b3), .val (.int (1 : Int32))] [(.int (1 : Int32))])) _
        exact k
      obtain ⟨fs, hr, hrun, hended, hW, hsame⟩ := X65.leave (v := some (.int (1 : Int32))) (fun h => by rw [Bd.returns] at h; cases h)
      refine ⟨_, _, pre73 _ ?_, hrun, hended, _, _, rfl, ?_, ⟨_, rfl⟩, hW, hsame.mono (by decide) (by decide)⟩
      · exact retOut X65 hx Bd.returns rfl (Or.inl ⟨rfl, by simp, _, rfl⟩) (hb hby at_242) hr
      · show Qlaw Z ta tb tc td pi qi h0 n0 _ T65.heap _
        rw [e65]
        exact ⟨rfl, N65⟩
    · skip
      have pre76 : ∀ t, Steps p.tables e below (T65.setTop (mkF m 217 #[.val (.long ta), .second, .val (.long tb), .second, .val (.long tc), .second, .val (.long td), .second, .val (.int pi), .val (.int qi), .val (.ref b1), .val (.ref b2), .val (.ref b3), .val (.int (1 : Int32))] [(.ref b2), (.ref b1)])) t → Steps p.tables e below (s₁.setTop (entryFrame m #[(.long ta), (.long tb), (.long tc), (.long td), (.int pi), (.int qi)] maxLocals)) t := by
        intro t k
        refine pre72 t ?_
        refine XS.ifNo X65.here hx rfl (hb hby at_205) rfl (XT.ll_gt_f hc205) ?_
        show Steps p.tables e below (T65.setTop (mkF m 208 #[.val (.long ta), .second, .val (.long tb), .second, .val (.long tc), .second, .val (.long td), .second, .val (.int pi), .val (.int qi), .val (.ref b1), .val (.ref b2), .val (.ref b3), .val (.int (1 : Int32))] [])) _
        refine XS.iload X65.here hx rfl (hb hby at_208) rfl ?_
        show Steps p.tables e below (T65.setTop (mkF m 210 #[.val (.long ta), .second, .val (.long tb), .second, .val (.long tc), .second, .val (.long td), .second, .val (.int pi), .val (.int qi), .val (.ref b1), .val (.ref b2), .val (.ref b3), .val (.int (1 : Int32))] [(.int (1 : Int32))])) _
        refine XS.ifNo X65.here hx rfl (hb hby at_210) rfl (XT.i0_eq_f (by decide)) ?_
        show Steps p.tables e below (T65.setTop (mkF m 213 #[.val (.long ta), .second, .val (.long tb), .second, .val (.long tc), .second, .val (.long td), .second, .val (.int pi), .val (.int qi), .val (.ref b1), .val (.ref b2), .val (.ref b3), .val (.int (1 : Int32))] [])) _
        refine XS.aload X65.here hx rfl (hb hby at_213) rfl rfl ?_
        show Steps p.tables e below (T65.setTop (mkF m 215 #[.val (.long ta), .second, .val (.long tb), .second, .val (.long tc), .second, .val (.long td), .second, .val (.int pi), .val (.int qi), .val (.ref b1), .val (.ref b2), .val (.ref b3), .val (.int (1 : Int32))] [(.ref b1)])) _
        refine XS.aload X65.here hx rfl (hb hby at_215) rfl rfl ?_
        show Steps p.tables e below (T65.setTop (mkF m 217 #[.val (.long ta), .second, .val (.long tb), .second, .val (.long tc), .second, .val (.long td), .second, .val (.int pi), .val (.int qi), .val (.ref b1), .val (.ref b2), .val (.ref b3), .val (.int (1 : Int32))] [(.ref b2), (.ref b1)])) _
        exact k
      obtain ⟨cq78, kq78, q78a, q78b, q78c⟩ := isOf hZ e65 E27_0
      obtain ⟨_, _, ⟨T78, L78, k78, n78⟩, -, X78, ⟨Lc78, hQ78, l78, y78, z78⟩, st78⟩ := X65.virtualBack hx (y := (⟨"com/example/firmline/firmline/Call", "precedes", "(Lcom/example/firmline/firmline/Call;)Z"⟩ : MethodName)) (z := (⟨"com/example/firmline/firmline/Call", "precedes", "(Lcom/example/firmline/firmline/Call;)Z"⟩ : MethodName)) hown (mvT hZ (hw _ (List.mem_of_getElem? (i := 30) rfl))) (mvT hZ (hw _ (List.mem_of_getElem? (i := 31) rfl))) (notFace_of_selects (args := #[]) (mvT hZ (hw _ (List.mem_of_getElem? (i := 33) rfl)))) (mvT hZ (hw _ (List.mem_of_getElem? (i := 33) rfl))) (mvT hZ (hw _ (List.mem_of_getElem? (i := 32) rfl))) (by decide) (backOf (W := 0) (rm5 l Z a0 hw [] b1 b2 tb tc h25 n0 Z27 F27_4 F27_8) hZ (hw _ (List.mem_of_getElem? (i := 34) rfl)) (hw _ (List.mem_of_getElem? (i := 2) rfl)) (by decide) (by decide)) q78a q78c (g := (mkF m 217 #[.val (.long ta), .second, .val (.long tb), .second, .val (.long tc), .second, .val (.long td), .second, .val (.int pi), .val (.int qi), .val (.ref b1), .val (.ref b2), .val (.ref b3), .val (.int (1 : Int32))] [(.ref b2), (.ref b1)])) rfl (by rw [hml]; rfl) (Steps.refl _) (argsL := [(.ref b2)]) (rest := []) (lenOf pd_pre rfl) rfl (by show 2 * 0 + _ ≤ _; exact Nat.le_of_eq rfl) (hb hby at_217) (fun _ _ => ⟨rfl, e65, (by decide : 3 + 0 ≤ _), (by decide : 15 + 0 ≤ _)⟩)
      dsimp only [Pt.U, Pt.locs, Pt.cells, Pt.slots] at X78 l78 y78 z78 st78 hQ78
      subst l78 y78 z78
      obtain ⟨rfl, Nq78, heq78⟩ := hQ78
      have N78 := Fr.app N65 Nq78
      have pre79 : ∀ t, Steps p.tables e below (T78.setTop (mkF m 220 #[.val (.long ta), .second, .val (.long tb), .second, .val (.long tc), .second, .val (.long td), .second, .val (.int pi), .val (.int qi), .val (.ref b1), .val (.ref b2), .val (.ref b3), .val (.int (1 : Int32))] [(.int (own_bi (tb < tc)))])) t → Steps p.tables e below (s₁.setTop (entryFrame m #[(.long ta), (.long tb), (.long tc), (.long td), (.int pi), (.int qi)] maxLocals)) t := fun t k => pre76 t (st78.trans k)
      by_cases hc220 : (own_bi (tb < tc)) = (0 : Int32)
      · skip
        have pre80 : ∀ t, Steps p.tables e below (T78.setTop (mkF m 242 #[.val (.long ta), .second, .val (.long tb), .second, .val (.long tc), .second, .val (.long td), .second, .val (.int pi), .val (.int qi), .val (.ref b1), .val (.ref b2), .val (.ref b3), .val (.int (1 : Int32))] [(.int (1 : Int32))])) t → Steps p.tables e below (s₁.setTop (entryFrame m #[(.long ta), (.long tb), (.long tc), (.long td), (.int pi), (.int qi)] maxLocals)) t := by
          intro t k
          refine pre79 t ?_
          refine XS.ifYes X78.here hx rfl (pc0 := 220) (pc' := 233) rfl (hb hby at_220) rfl (XT.i0_eq_t hc220) (by decide) (by decide) ?_
          show Steps p.tables e below (T78.setTop (mkF m 233 #[.val (.long ta), .second, .val (.long tb), .second, .val (.long tc), .second, .val (.long td), .second, .val (.int pi), .val (.int qi), .val (.ref b1), .val (.ref b2), .val (.ref b3), .val (.int (1 : Int32))] [])) _
          refine XS.iconst X78.here hx rfl (hb hby at_233) ?_
          show Steps p.tables e below (T78.setTop (mkF m 234 #[.val (.long ta), .second, .val (.long tb), .second, .val (.long tc), .second, .val (.long td), .second, .val (.int pi), .val (.int qi), .val (.ref b1), .val (.ref b2), .val (.ref b3), .val (.int (1 : Int32))] [(.int (1 : Int32))])) _
          refine XS.goto X78.here hx rfl (pc0 := 234) (pc' := 238) rfl (hb hby at_234) (by decide) (by decide) ?_
          show Steps p.tables e below (T78.setTop (mkF m 238 #[.val (.long ta), .second, .val (.long tb), .second, .val (.long tc), .second, .val (.long td), .second, .val (.int pi), .val (.int qi), .val (.ref b1), .val (.ref b2), .val (.ref b3), .val (.int (1 : Int32))] [(.int (1 : Int32))])) _
          refine XS.istore X78.here hx rfl (hb hby at_238) rfl (l' := #[.val (.long ta), .second, .val (.long tb), .second, .val (.long tc), .second, .val (.long td), .second, .val (.int pi), .val (.int qi), .val (.ref b1), .val (.ref b2), .val (.ref b3), .val (.int (1 : Int32))]) rfl ?_
          show Steps p.tables e below (T78.setTop (mkF m 240 #[.val (.long ta), .second, .val (.long tb), .second, .val (.long tc), .second, .val (.long td), .second, .val (.int pi), .val (.int qi), .val (.ref b1), .val (.ref b2), .val (.ref b3), .val (.int (1 : Int32))] [])) _
          refine XS.iload X78.here hx rfl (hb hby at_240) rfl ?_
          show Steps p.tables e below (T78.setTop (mkF m 242 #[.val (.long ta), .second, .val (.long tb), .second, .val (.long tc), .second, .val (.long td), .second, .val (.int pi), .val (.int qi), .val (.ref b1), .val (.ref b2), .val (.ref b3), .val (.int (1 : Int32))] [(.int (1 : Int32))])) _
          exact k
        obtain ⟨fs, hr, hrun, hended, hW, hsame⟩ := X78.leave (v := some (.int (1 : Int32))) (fun h => by rw [Bd.returns] at h; cases h)
        refine ⟨_, _, pre80 _ ?_, hrun, hended, _, _, rfl, ?_, ⟨_, rfl⟩, hW, hsame.mono (by decide) (by decide)⟩
        · exact retOut X78 hx Bd.returns rfl (Or.inl ⟨rfl, by simp, _, rfl⟩) (hb hby at_242) hr
        · show Qlaw Z ta tb tc td pi qi h0 n0 _ T78.heap _
          rw [heq78]
          exact ⟨rfl, N78⟩
      · skip
        have pre83 : ∀ t, Steps p.tables e below (T78.setTop (mkF m 227 #[.val (.long ta), .second, .val (.long tb), .second, .val (.long tc), .second, .val (.long td), .second, .val (.int pi), .val (.int qi), .val (.ref b1), .val (.ref b2), .val (.ref b3), .val (.int (1 : Int32))] [(.ref b1), (.ref b2)])) t → Steps p.tables e below (s₁.setTop (entryFrame m #[(.long ta), (.long tb), (.long tc), (.long td), (.int pi), (.int qi)] maxLocals)) t := by
          intro t k
          refine pre79 t ?_
          refine XS.ifNo X78.here hx rfl (hb hby at_220) rfl (XT.i0_eq_f hc220) ?_
          show Steps p.tables e below (T78.setTop (mkF m 223 #[.val (.long ta), .second, .val (.long tb), .second, .val (.long tc), .second, .val (.long td), .second, .val (.int pi), .val (.int qi), .val (.ref b1), .val (.ref b2), .val (.ref b3), .val (.int (1 : Int32))] [])) _
          refine XS.aload X78.here hx rfl (hb hby at_223) rfl rfl ?_
          show Steps p.tables e below (T78.setTop (mkF m 225 #[.val (.long ta), .second, .val (.long tb), .second, .val (.long tc), .second, .val (.long td), .second, .val (.int pi), .val (.int qi), .val (.ref b1), .val (.ref b2), .val (.ref b3), .val (.int (1 : Int32))] [(.ref b2)])) _
          refine XS.aload X78.here hx rfl (hb hby at_225) rfl rfl ?_
          show Steps p.tables e below (T78.setTop (mkF m 227 #[.val (.long ta), .second, .val (.long tb), .second, .val (.long tc), .second, .val (.long td), .second, .val (.int pi), .val (.int qi), .val (.ref b1), .val (.ref b2), .val (.ref b3), .val (.int (1 : Int32))] [(.ref b1), (.ref b2)])) _
          exact k
        obtain ⟨cq85, kq85, q85a, q85b, q85c⟩ := isOf hZ heq78 E27_1
        obtain ⟨_, _, ⟨T85, L85, k85, n85⟩, -, X85, ⟨Lc85, hQ85, l85, y85, z85⟩, st85⟩ := X78.virtualBack hx (y := (⟨"com/example/firmline/firmline/Call", "precedes", "(Lcom/example/firmline/firmline/Call;)Z"⟩ : MethodName)) (z := (⟨"com/example/firmline/firmline/Call", "precedes", "(Lcom/example/firmline/firmline/Call;)Z"⟩ : MethodName)) hown (mvT hZ (hw _ (List.mem_of_getElem? (i := 30) rfl))) (mvT hZ (hw _ (List.mem_of_getElem? (i := 31) rfl))) (notFace_of_selects (args := #[]) (mvT hZ (hw _ (List.mem_of_getElem? (i := 33) rfl)))) (mvT hZ (hw _ (List.mem_of_getElem? (i := 33) rfl))) (mvT hZ (hw _ (List.mem_of_getElem? (i := 32) rfl))) (by decide) (backOf (W := 0) (rm5 l Z a0 hw [] b2 b1 td ta h25 n0 Z27 F27_9 F27_3) hZ (hw _ (List.mem_of_getElem? (i := 34) rfl)) (hw _ (List.mem_of_getElem? (i := 2) rfl)) (by decide) (by decide)) q85a q85c (g := (mkF m 227 #[.val (.long ta), .second, .val (.long tb), .second, .val (.long tc), .second, .val (.long td), .second, .val (.int pi), .val (.int qi), .val (.ref b1), .val (.ref b2), .val (.ref b3), .val (.int (1 : Int32))] [(.ref b1), (.ref b2)])) rfl (by rw [hml]; rfl) (Steps.refl _) (argsL := [(.ref b1)]) (rest := []) (lenOf pd_pre rfl) rfl (by show 2 * 0 + _ ≤ _; exact Nat.le_of_eq rfl) (hb hby at_227) (fun _ _ => ⟨rfl, heq78, (by decide : 3 + 0 ≤ _), (by decide : 15 + 0 ≤ _)⟩)
        dsimp only [Pt.U, Pt.locs, Pt.cells, Pt.slots] at X85 l85 y85 z85 st85 hQ85
        subst l85 y85 z85
        obtain ⟨rfl, Nq85, heq85⟩ := hQ85
        have N85 := Fr.app N78 Nq85
        have pre86 : ∀ t, Steps p.tables e below (T85.setTop (mkF m 230 #[.val (.long ta), .second, .val (.long tb), .second, .val (.long tc), .second, .val (.long td), .second, .val (.int pi), .val (.int qi), .val (.ref b1), .val (.ref b2), .val (.ref b3), .val (.int (1 : Int32))] [(.int (own_bi (td < ta)))])) t → Steps p.tables e below (s₁.setTop (entryFrame m #[(.long ta), (.long tb), (.long tc), (.long td), (.int pi), (.int qi)] maxLocals)) t := fun t k => pre83 t (st85.trans k)
        have pre87 : ∀ t, Steps p.tables e below (T85.setTop (mkF m 242 #[.val (.long ta), .second, .val (.long tb), .second, .val (.long tc), .second, .val (.long td), .second, .val (.int pi), .val (.int qi), .val (.ref b1), .val (.ref b2), .val (.ref b3), .val (.int (1 : Int32))] [(.int (1 : Int32))])) t → Steps p.tables e below (s₁.setTop (entryFrame m #[(.long ta), (.long tb), (.long tc), (.long td), (.int pi), (.int qi)] maxLocals)) t := by
          intro t k
          refine pre86 t ?_
          refine XS.ifNo X85.here hx rfl (hb hby at_230) rfl (XT.i0_ne_f (own_contra hc197 hc205 hc220)) ?_
          show Steps p.tables e below (T85.setTop (mkF m 233 #[.val (.long ta), .second, .val (.long tb), .second, .val (.long tc), .second, .val (.long td), .second, .val (.int pi), .val (.int qi), .val (.ref b1), .val (.ref b2), .val (.ref b3), .val (.int (1 : Int32))] [])) _
          refine XS.iconst X85.here hx rfl (hb hby at_233) ?_
          show Steps p.tables e below (T85.setTop (mkF m 234 #[.val (.long ta), .second, .val (.long tb), .second, .val (.long tc), .second, .val (.long td), .second, .val (.int pi), .val (.int qi), .val (.ref b1), .val (.ref b2), .val (.ref b3), .val (.int (1 : Int32))] [(.int (1 : Int32))])) _
          refine XS.goto X85.here hx rfl (pc0 := 234) (pc' := 238) rfl (hb hby at_234) (by decide) (by decide) ?_
          show Steps p.tables e below (T85.setTop (mkF m 238 #[.val (.long ta), .second, .val (.long tb), .second, .val (.long tc), .second, .val (.long td), .second, .val (.int pi), .val (.int qi), .val (.ref b1), .val (.ref b2), .val (.ref b3), .val (.int (1 : Int32))] [(.int (1 : Int32))])) _
          refine XS.istore X85.here hx rfl (hb hby at_238) rfl (l' := #[.val (.long ta), .second, .val (.long tb), .second, .val (.long tc), .second, .val (.long td), .second, .val (.int pi), .val (.int qi), .val (.ref b1), .val (.ref b2), .val (.ref b3), .val (.int (1 : Int32))]) rfl ?_
          show Steps p.tables e below (T85.setTop (mkF m 240 #[.val (.long ta), .second, .val (.long tb), .second, .val (.long tc), .second, .val (.long td), .second, .val (.int pi), .val (.int qi), .val (.ref b1), .val (.ref b2), .val (.ref b3), .val (.int (1 : Int32))] [])) _
          refine XS.iload X85.here hx rfl (hb hby at_240) rfl ?_
          show Steps p.tables e below (T85.setTop (mkF m 242 #[.val (.long ta), .second, .val (.long tb), .second, .val (.long tc), .second, .val (.long td), .second, .val (.int pi), .val (.int qi), .val (.ref b1), .val (.ref b2), .val (.ref b3), .val (.int (1 : Int32))] [(.int (1 : Int32))])) _
          exact k
        obtain ⟨fs, hr, hrun, hended, hW, hsame⟩ := X85.leave (v := some (.int (1 : Int32))) (fun h => by rw [Bd.returns] at h; cases h)
        refine ⟨_, _, pre87 _ ?_, hrun, hended, _, _, rfl, ?_, ⟨_, rfl⟩, hW, hsame.mono (by decide) (by decide)⟩
        · exact retOut X85 hx Bd.returns rfl (Or.inl ⟨rfl, by simp, _, rfl⟩) (hb hby at_242) hr
        · show Qlaw Z ta tb tc td pi qi h0 n0 _ T85.heap _
          rw [heq85]
          exact ⟨rfl, N85⟩
set_option maxRecDepth 65536 in
set_option maxHeartbeats 40000000 in
theorem comes_1 {Post : Tables → Env → Array Value → State → Outcome → State → Prop} (hpost : ∀ tb e args s v u, (limb_1_1.after args s (.returned v) u = true ∧ limb_1_2.after args s (.returned v) u = true ∧ True) → FrameEnd s (.returned v) u (Jvm.fieldLocs frame_1_writes args s ++ Jvm.arrayLocs frame_1_arrays args s ++ Jvm.staticLocs frame_1_statics s) 16 128 → Post tb e args s (.returned v) u) :
    ArmFor flags0 classFile x code maxLocals ret World_1 tables_1 room_1 Calls_1 rest_1 Pre_1 Post := by
  intro l hfl _ _ p e ha hc hk s m args below hf hA hF happ hP
  obtain ⟨hcalls, hrest, hpre⟩ := hP
  obtain ⟨-, -, -, hnamed, -, -, -, hat⟩ := (Spec.applies_iff hf).mp happ
  obtain ⟨hg, hn⟩ := and_e (Cond.before_iff.mp (show (Jvm.Cond.and given_1 narrow_1).before args s = true from hpre))
  obtain ⟨gc, g0⟩ := and_e hg
  obtain ⟨w0, w1, w2, w3, w4, w5, rfl⟩ : ∃ w0 w1 w2 w3 w4 w5 : Value, args = #[w0, w1, w2, w3, w4, w5] := by
    have hs : args.size = 6 := by simpa [Cond.value, given_1] using gc
    obtain ⟨L⟩ := args
    match L, hs with
    | [w0, w1, w2, w3, w4, w5], _ => exact ⟨w0, w1, w2, w3, w4, w5, rfl⟩
  have hw := fun d (hd : d ∈ tables_1) => atoms_spec (ws := Jvm.Cond.code x code maxLocals ret :: tables_1) hat d (List.mem_cons_of_mem _ hd)
  have hfit : Fit s := fun {y c} hc i hi => by
    obtain ⟨ha, rfl⟩ := Array.getElem?_eq_some_iff.mp hc
    have q := List.all_eq_true.mp ((Array.all_eq_true_iff_forall_mem.mp hF) _ (Array.getElem_mem ha)) i (List.mem_range.mpr hi)
    simpa [Array.getElem?_eq_getElem hi] using q
  obtain ⟨ga0, gb0⟩ := and_e g0
  obtain ⟨i0, ei0⟩ := isL_v ga0
  obtain rfl : w0 = (.long i0) := Option.some.inj ei0
  obtain ⟨ga1, gb1⟩ := and_e gb0
  obtain ⟨i1, ei1⟩ := isL_v ga1
  obtain rfl : w1 = (.long i1) := Option.some.inj ei1
  obtain ⟨ga2, gb2⟩ := and_e gb1
  obtain ⟨i2, ei2⟩ := isL_v ga2
  obtain rfl : w2 = (.long i2) := Option.some.inj ei2
  obtain ⟨ga3, gb3⟩ := and_e gb2
  obtain ⟨i3, ei3⟩ := isL_v ga3
  obtain rfl : w3 = (.long i3) := Option.some.inj ei3
  obtain ⟨ga4, gb4⟩ := and_e gb3
  obtain ⟨i4, ei4⟩ := is_v ga4
  obtain rfl : w4 = (.int i4) := Option.some.inj ei4
  obtain ⟨i5, ei5⟩ := is_v gb4
  obtain rfl : w5 = (.int i5) := Option.some.inj ei5
  obtain ⟨n, o, h1, h2, h3, _, L, rfl, ⟨rfl, N⟩, hq⟩ := rmlaw l s _ hw tables_1 i0 i1 i2 i3 i4 i5 s.heap s.heap.size (Nat.le_refl _)  p e ha hc hk s m _ below hf ((Spec.applies_iff_loose hf).mp happ).1 ⟨rfl, State.Warmed39.refl s, rfl⟩ trivial
  refine ⟨n, _, h1, h2, h3, hpost _ _ _ _ _ _ ⟨Cond.after_iff.mpr rfl, Cond.after_iff.mpr (eq_i res_at (Term.int_eval (1)) rfl), trivial⟩ ⟨hq.1, hq.2.1, (hq.2.2.sift fun y hy => Or.inr (N y hy)).mono (by decide) (by decide)⟩⟩
theorem main_1_1 : Claimed_1_1 := comes_1 fun _ _ _ _ _ _ h hF => ⟨h.1, hF⟩
theorem main_1_2 : Claimed_1_2 := comes_1 fun _ _ _ _ _ _ h hF => ⟨h.2.1, hF⟩
end Jvm.Pilot.@@N@@
namespace Jvm.Pilot.@@N@@
open Jvm Jvm.ClassFile Sem Op Lib Jvm.Free Jvm.Stand Jvm.Pilot.@@N@@.Jvm.D
/-! MADE BY PROGRAM (witnessworld.py) out of the Statement's table words and the real class files: 10 classes; the members and pool entries that the words name. The judged class is class 1, her method 1. -/
namespace start1
open Jvm.ClassFile
def u (s : String) : CpInfo := .utf8 (stringToUtf16 s)
/-- a pool by its gaps: so many unusable entries, then the entry; so many at the end -/
def gap : Nat → List CpInfo → List CpInfo
  | 0, r => r
  | n + 1, r => .unusable :: gap n r
def poolList (es : List (Nat × CpInfo)) (last : Nat) : List CpInfo := es.foldr (fun e r => gap e.1 (e.2 :: r)) (gap last [])
def pool (es : List (Nat × CpInfo)) (last : Nat) : Array CpInfo := ⟨poolList es last⟩
def fileOf (pool : Array CpInfo) (this : Nat) (attrs : Array Attribute := #[]) (ms : Array MethodInfo := #[]) (fl : Nat := 33) (sup : Nat := 0) (ifs : Array Nat := #[]) (fds : Array FieldInfo := #[]) : ClassFile where
  minorVersion := 0
  majorVersion := 65
  constantPool := pool
  accessFlags := fl
  thisClass := this
  superClass := sup
  interfaces := ifs
  fields := fds
  methods := ms
  attributes := attrs
def plain (name : String) (sup : Option ClassId) : Class where
  name := name
  kind := .ordinary
  loader := none
  accessFlags := 33
  super := sup
  interfaces := #[]
  cf := none
  fields := #[]
  methods := #[]
  instanceTypes := #[]
  staticTypes := #[]
  resolved := #[]
  callSites := []
  init := .initialized
  statics := none
  mirror := none

def pool0 : Array CpInfo := pool [(5, u "<init>"), (0, u "()V"), (1, .class_ 10), (1, u "java/lang/Object")] 113

def k0c0 : Code := { maxStack := 0, maxLocals := 1, code := object_method_1_code, exceptionTable := #[], attributes := #[] }
def k0m0 : Method := { name := "<init>", desc := "()V", sig := { parameters := [], returnType := none }, accessFlags := 1, code := some k0c0 }
/-- java/lang/Object -/
def k0 : Class := { plain "java/lang/Object" none with
  accessFlags := 33
  interfaces := #[]
  cf := some (fileOf pool0 8 #[] #[{ accessFlags := 1, nameIndex := 5, descriptorIndex := 6, attributes := #[] }] 33 0 #[] #[])
  fields := #[]
  methods := #[k0m0]
  instanceTypes := #[]
  staticTypes := #[]
  resolved := Array.replicate 124 none
  statics := none }

def pool1 : Array CpInfo := pool [(2, .class_ 4), (1, u "java/lang/Object"), (0, u "<init>"), (0, u "()V"), (0, .class_ 8), (0, u "com/example/firmline/firmline/Call"), (0, .methodref 7 10), (0, .nameAndType 5 11), (0, u "(ILcom/example/firmline/firmline/Operation;Ljava/lang/Object;JJ)V"), (0, .methodref 7 13), (0, .nameAndType 14 15), (0, u "pending"), (0, u "(ILcom/example/firmline/firmline/Operation;J)Lcom/example/firmline/firmline/Call;"), (0, .methodref 7 17), (0, .nameAndType 18 19), (0, u "precedes"), (0, u "(Lcom/example/firmline/firmline/Call;)Z"), (0, .class_ 21), (0, u "com/example/firmline/firmline/CallPrecedesPinLaw"), (2, u "law"), (0, u "(JJJJII)Z")] 3

def k1m0 : Method := { name := "<init>", desc := "()V", sig := { parameters := [], returnType := none }, accessFlags := 1, code := none }
def k1c1 : Code := { maxStack := 9, maxLocals := 14, code := code, exceptionTable := #[], attributes := #[] }
def k1m1 : Method := { name := "law", desc := "(JJJJII)Z", sig := { parameters := [.long, .long, .long, .long, .int, .int], returnType := some .boolean }, accessFlags := 9, code := some k1c1 }
/-- com/example/firmline/firmline/CallPrecedesPinLaw -/
def k1 : Class := { plain "com/example/firmline/firmline/CallPrecedesPinLaw" (some 0) with
  accessFlags := 49
  interfaces := #[]
  cf := some (fileOf pool1 20 #[] #[{ accessFlags := 1, nameIndex := 5, descriptorIndex := 6, attributes := #[] }, { accessFlags := 9, nameIndex := 24, descriptorIndex := 25, attributes := #[] }] 49 2 #[] #[])
  fields := #[]
  methods := #[k1m0, k1m1]
  instanceTypes := #[]
  staticTypes := #[]
  resolved := Array.replicate 29 none
  statics := none }

def pool2 : Array CpInfo := pool [(1, .methodref 2 3), (0, .class_ 4), (0, .nameAndType 5 6), (0, u "java/lang/Object"), (0, u "<init>"), (0, u "()V"), (0, .class_ 8), (0, u "java/lang/Record")] 13

def k2c0 : Code := { maxStack := 1, maxLocals := 1, code := jdk_30_method_1_code, exceptionTable := #[], attributes := #[] }
def k2m0 : Method := { name := "<init>", desc := "()V", sig := { parameters := [], returnType := none }, accessFlags := 4, code := some k2c0 }
/-- java/lang/Record -/
def k2 : Class := { plain "java/lang/Record" (some 0) with
  accessFlags := 1057
  interfaces := #[]
  cf := some (fileOf pool2 7 #[] #[{ accessFlags := 4, nameIndex := 5, descriptorIndex := 6, attributes := #[] }] 1057 2 #[] #[])
  fields := #[]
  methods := #[k2m0]
  instanceTypes := #[]
  staticTypes := #[]
  resolved := Array.replicate 22 none
  statics := none }

def pool3 : Array CpInfo := pool [(3, .methodref 4 5), (0, .class_ 6), (0, .nameAndType 7 8), (0, u "java/lang/Record"), (0, u "<init>"), (0, u "()V"), (0, .fieldref 10 11), (0, .class_ 12), (0, .nameAndType 13 14), (0, u "com/example/firmline/firmline/Call"), (0, u "process"), (0, u "I"), (0, .fieldref 10 16), (0, .nameAndType 17 18), (0, u "operation"), (0, u "Lcom/example/firmline/firmline/Operation;"), (0, .fieldref 10 20), (0, .nameAndType 21 22), (0, u "response"), (0, u "Ljava/lang/Object;"), (0, .fieldref 10 24), (0, .nameAndType 25 26), (0, u "invoked"), (0, u "J"), (0, .fieldref 10 28), (0, .nameAndType 29 26), (0, u "responded"), (0, .long 9223372036854775807), (1, .methodref 10 33), (0, .nameAndType 7 34), (0, u "(ILcom/example/firmline/firmline/Operation;Ljava/lang/Object;JJ)V"), (12, u "PENDING"), (4, u "pending"), (0, u "(ILcom/example/firmline/firmline/Operation;J)Lcom/example/firmline/firmline/Call;"), (2, u "precedes"), (0, u "(Lcom/example/firmline/firmline/Call;)Z")] 30

def k3c0 : Code := { maxStack := 3, maxLocals := 8, code := prog_21_method_1_code, exceptionTable := #[], attributes := #[] }
def k3m0 : Method := { name := "<init>", desc := "(ILcom/example/firmline/firmline/Operation;Ljava/lang/Object;JJ)V", sig := { parameters := [.int, (.object "com/example/firmline/firmline/Operation"), (.object "java/lang/Object"), .long, .long], returnType := none }, accessFlags := 0, code := some k3c0 }
def k3c1 : Code := { maxStack := 9, maxLocals := 4, code := prog_21_method_2_code, exceptionTable := #[], attributes := #[] }
def k3m1 : Method := { name := "pending", desc := "(ILcom/example/firmline/firmline/Operation;J)Lcom/example/firmline/firmline/Call;", sig := { parameters := [.int, (.object "com/example/firmline/firmline/Operation"), .long], returnType := some (.object "com/example/firmline/firmline/Call") }, accessFlags := 8, code := some k3c1 }
def k3c2 : Code := { maxStack := 4, maxLocals := 2, code := prog_21_method_4_code, exceptionTable := #[], attributes := #[] }
def k3m2 : Method := { name := "precedes", desc := "(Lcom/example/firmline/firmline/Call;)Z", sig := { parameters := [(.object "com/example/firmline/firmline/Call")], returnType := some .boolean }, accessFlags := 0, code := some k3c2 }
/-- com/example/firmline/firmline/Call -/
def k3 : Class := { plain "com/example/firmline/firmline/Call" (some 2) with
  accessFlags := 48
  interfaces := #[]
  cf := some (fileOf pool3 10 #[] #[{ accessFlags := 0, nameIndex := 7, descriptorIndex := 34, attributes := #[] }, { accessFlags := 8, nameIndex := 52, descriptorIndex := 53, attributes := #[] }, { accessFlags := 0, nameIndex := 56, descriptorIndex := 57, attributes := #[] }] 48 4 #[] #[{ accessFlags := 18, nameIndex := 13, descriptorIndex := 14, attributes := #[] }, { accessFlags := 18, nameIndex := 17, descriptorIndex := 18, attributes := #[] }, { accessFlags := 18, nameIndex := 21, descriptorIndex := 22, attributes := #[] }, { accessFlags := 18, nameIndex := 25, descriptorIndex := 26, attributes := #[] }, { accessFlags := 18, nameIndex := 29, descriptorIndex := 26, attributes := #[] }, { accessFlags := 24, nameIndex := 47, descriptorIndex := 26, attributes := #[] }])
  fields := #[{ name := "process", type := .int, accessFlags := 18, slot := 0, constantValue := 0 }, { name := "operation", type := (.object "com/example/firmline/firmline/Operation"), accessFlags := 18, slot := 1, constantValue := 0 }, { name := "response", type := (.object "java/lang/Object"), accessFlags := 18, slot := 2, constantValue := 0 }, { name := "invoked", type := .long, accessFlags := 18, slot := 3, constantValue := 0 }, { name := "responded", type := .long, accessFlags := 18, slot := 4, constantValue := 0 }, { name := "PENDING", type := .long, accessFlags := 24, slot := 0, constantValue := 0 }]
  methods := #[k3m0, k3m1, k3m2]
  instanceTypes := #[.int, (.object "com/example/firmline/firmline/Operation"), (.object "java/lang/Object"), .long, .long]
  staticTypes := #[.long]
  resolved := Array.replicate 88 none
  statics := none }

def pool4 : Array CpInfo := pool [(1, u "java/lang/Cloneable"), (0, .class_ 1), (0, u "java/lang/Object"), (0, .class_ 3)] 3

/-- java/lang/Cloneable -/
def k4 : Class := { plain "java/lang/Cloneable" (some 0) with
  accessFlags := 1537
  interfaces := #[]
  cf := some (fileOf pool4 2 #[] #[] 1537 4 #[] #[])
  fields := #[]
  methods := #[]
  instanceTypes := #[]
  staticTypes := #[]
  resolved := Array.replicate 8 none
  statics := none }

def pool5 : Array CpInfo := pool [(1, u "java/io/Serializable"), (0, .class_ 1), (0, u "java/lang/Object"), (0, .class_ 3)] 3

/-- java/io/Serializable -/
def k5 : Class := { plain "java/io/Serializable" (some 0) with
  accessFlags := 1537
  interfaces := #[]
  cf := some (fileOf pool5 2 #[] #[] 1537 4 #[] #[])
  fields := #[]
  methods := #[]
  instanceTypes := #[]
  staticTypes := #[]
  resolved := Array.replicate 8 none
  statics := none }

/-- the primitive byte -/
def k6 : Class := { plain "byte" none with kind := .primitive 'B', accessFlags := 0x411 }
/-- [B -/
def k7 : Class := { plain "[B" (some 0) with kind := .array 6 .byte, interfaces := #[4, 5], accessFlags := 1041 }

/-- the primitive int -/
def k8 : Class := { plain "int" none with kind := .primitive 'I', accessFlags := 0x411 }
/-- [I -/
def k9 : Class := { plain "[I" (some 0) with kind := .array 8 .int, interfaces := #[4, 5], accessFlags := 1041 }

def heap : Heap := #[]
def classes : Array Class := #[k0, k1, k2, k3, k4, k5, k6, k7, k8, k9]
def interned : List (Array UInt16 × Addr) := []
def slotsUsed : Nat := 0
def theMethod : MethodId := ⟨1, 1⟩
def args0 : Array Value := #[.long 1, .long 2, .long 3, .long 4, .int 5, .int 6]
def aboutOver (below : List Frame) : State where
  vm := { classes := classes, interned := interned.toArray }
  heap := heap
  slotsUsed := slotsUsed
  threads := #[{ frames := .invoking theMethod args0 :: below }]
def below0 : List Frame := [.native { method := ⟨0, 0⟩, args := #[] }]
def about1 : State := aboutOver below0
def p0 : Program := .bare "" "" ""
def e0 : Env := launch0.env 0 0 0
theorem w_frames : about1.frames = Frame.invoking theMethod args0 :: below0 := rfl
set_option maxRecDepth 65536 in
theorem w_args : argsFit about1.vm theMethod args0 = true := by decide +kernel
set_option maxRecDepth 65536 in
theorem w_heap : heapFits about1 = true := by decide +kernel
set_option maxRecDepth 65536 in
theorem w_runnable : about1.curStatus? = some .runnable := by decide +kernel
set_option maxRecDepth 65536 in
theorem w_alone : about1.alone = true := by decide +kernel
set_option maxRecDepth 65536 in
theorem w_named : about1.methodNamed? x = some theMethod := by decide +kernel
set_option maxRecDepth 65536 in
theorem w_hears : about1.hears theMethod below0 = true := by decide +kernel
set_option maxRecDepth 65536 in
theorem w_ripe : about1.ripe theMethod args0 below0 = true := by decide +kernel
theorem w_running : about1.status = .running := rfl
set_option maxRecDepth 65536 in
theorem w_room : about1.hasRoom e0.platform room_1 = true :=
  launch0.hasRoom_least _ room_1 (by decide +kernel) (by decide +kernel) (by decide +kernel) (by decide +kernel) (by decide +kernel) (by decide +kernel)
theorem allAtoms_all (ts : List Jvm.Cond) (a : Array Jvm.Value) (st : Jvm.State) : (allAtoms ts).before a st = ts.all (fun c => c.before a st) := by
  induction ts with
  | nil => rfl
  | cons c t ih =>
    show (Jvm.Cond.and c (allAtoms t)).before a st = _
    rw [Jvm.Cond.before_and, ih, List.all_cons]
def words1 : List Jvm.Cond := Jvm.Cond.code x code maxLocals ret :: tables_1
/-- a 'code' word, met by the world's own term for the bytes: nothing is compared byte by byte -/
theorem code_word {y : MethodName} {bytes : ByteArray} {mx : Nat} {rt : Option FieldType} {a : Array Value} {s : State} {m : MethodId} {meth : Method} {c : Code} (h1 : s.methodNamed? y = some m) (h2 : s.vm.method? m = some meth) (h3 : meth.code = some c) (h4 : c.code = bytes)
    (h5 : (c.maxLocals == mx && c.exceptionTable.isEmpty && decide (c.maxStack ≤ mostOperands) && decide (meth.sig.returnType = rt) && !meth.locks && decide (parseMethodDescriptor y.desc = some meth.sig)) = true) : (Jvm.Cond.code y bytes mx rt).before a s = true := by
  simp only [Bool.and_eq_true, beq_iff_eq, Bool.not_eq_true', decide_eq_true_eq] at h5
  obtain ⟨⟨⟨⟨⟨g1, g2⟩, g3⟩, g4⟩, g5⟩, g6⟩ := h5
  simp [Cond.before, Cond.holds, Cond.value, h1, h2, h3, h4, g1, g2, g3, g4, g5, g6]
def isCode : Jvm.Cond → Bool
  | .code _ _ _ _ => true
  | _ => false
theorem all_split {L : List Jvm.Cond} {P : Jvm.Cond → Bool} (h1 : L.all (fun c => isCode c || P c) = true) (h2 : ∀ c ∈ L.filter isCode, P c = true) : L.all P = true := by
  refine List.all_eq_true.mpr fun c hc => ?_
  have h := List.all_eq_true.mp h1 c hc
  rcases Bool.eq_false_or_eq_true (isCode c) with hi | hi
  · exact h2 c (List.mem_filter.mpr ⟨hc, hi⟩)
  · simpa [hi] using h
set_option maxRecDepth 65536 in
theorem w_c0 : (Jvm.Cond.code x code maxLocals ret).before args0 about1 = true := code_word (m := ⟨1, 1⟩) (meth := k1m1) (c := k1c1) (by decide +kernel) rfl rfl rfl (by decide +kernel)
set_option maxRecDepth 65536 in
theorem w_c1 : (Jvm.Cond.code ({ cls := "com/example/firmline/firmline/Call", name := "<init>", desc := "(ILcom/example/firmline/firmline/Operation;Ljava/lang/Object;JJ)V" } : Jvm.MethodName) prog_21_method_1_code (8 : Nat) (Option.none : Option Jvm.ClassFile.FieldType)).before args0 about1 = true := code_word (m := ⟨3, 0⟩) (meth := k3m0) (c := k3c0) (by decide +kernel) rfl rfl rfl (by decide +kernel)
set_option maxRecDepth 65536 in
theorem w_c2 : (Jvm.Cond.code ({ cls := "java/lang/Record", name := "<init>", desc := "()V" } : Jvm.MethodName) jdk_30_method_1_code (1 : Nat) (Option.none : Option Jvm.ClassFile.FieldType)).before args0 about1 = true := code_word (m := ⟨2, 0⟩) (meth := k2m0) (c := k2c0) (by decide +kernel) rfl rfl rfl (by decide +kernel)
set_option maxRecDepth 65536 in
theorem w_c3 : (Jvm.Cond.code ({ cls := "java/lang/Object", name := "<init>", desc := "()V" } : Jvm.MethodName) object_method_1_code (1 : Nat) (Option.none : Option Jvm.ClassFile.FieldType)).before args0 about1 = true := code_word (m := ⟨0, 0⟩) (meth := k0m0) (c := k0c0) (by decide +kernel) rfl rfl rfl (by decide +kernel)
set_option maxRecDepth 65536 in
theorem w_c4 : (Jvm.Cond.code ({ cls := "com/example/firmline/firmline/Call", name := "pending", desc := "(ILcom/example/firmline/firmline/Operation;J)Lcom/example/firmline/firmline/Call;" } : Jvm.MethodName) prog_21_method_2_code (4 : Nat) (Option.some (Jvm.ClassFile.FieldType.object "com/example/firmline/firmline/Call"))).before args0 about1 = true := code_word (m := ⟨3, 1⟩) (meth := k3m1) (c := k3c1) (by decide +kernel) rfl rfl rfl (by decide +kernel)
set_option maxRecDepth 65536 in
theorem w_c5 : (Jvm.Cond.code ({ cls := "com/example/firmline/firmline/Call", name := "precedes", desc := "(Lcom/example/firmline/firmline/Call;)Z" } : Jvm.MethodName) prog_21_method_4_code (2 : Nat) (Option.some Jvm.ClassFile.FieldType.boolean)).before args0 about1 = true := code_word (m := ⟨3, 2⟩) (meth := k3m2) (c := k3c2) (by decide +kernel) rfl rfl rfl (by decide +kernel)
def codes1 : List Jvm.Cond := [Jvm.Cond.code x code maxLocals ret, Jvm.Cond.code ({ cls := "com/example/firmline/firmline/Call", name := "<init>", desc := "(ILcom/example/firmline/firmline/Operation;Ljava/lang/Object;JJ)V" } : Jvm.MethodName) prog_21_method_1_code (8 : Nat) (Option.none : Option Jvm.ClassFile.FieldType), Jvm.Cond.code ({ cls := "java/lang/Record", name := "<init>", desc := "()V" } : Jvm.MethodName) jdk_30_method_1_code (1 : Nat) (Option.none : Option Jvm.ClassFile.FieldType), Jvm.Cond.code ({ cls := "java/lang/Object", name := "<init>", desc := "()V" } : Jvm.MethodName) object_method_1_code (1 : Nat) (Option.none : Option Jvm.ClassFile.FieldType), Jvm.Cond.code ({ cls := "com/example/firmline/firmline/Call", name := "pending", desc := "(ILcom/example/firmline/firmline/Operation;J)Lcom/example/firmline/firmline/Call;" } : Jvm.MethodName) prog_21_method_2_code (4 : Nat) (Option.some (Jvm.ClassFile.FieldType.object "com/example/firmline/firmline/Call")), Jvm.Cond.code ({ cls := "com/example/firmline/firmline/Call", name := "precedes", desc := "(Lcom/example/firmline/firmline/Call;)Z" } : Jvm.MethodName) prog_21_method_4_code (2 : Nat) (Option.some Jvm.ClassFile.FieldType.boolean)]
set_option maxRecDepth 65536 in
theorem codes_eq : words1.filter isCode = codes1 := rfl
theorem w_codes : ∀ c ∈ words1.filter isCode, c.before args0 about1 = true := by
  rw [codes_eq]
  intro c hc
  simp only [codes1, List.mem_cons, List.not_mem_nil, or_false] at hc
  rcases hc with rfl | rfl | rfl | rfl | rfl | rfl
  · exact w_c0
  · exact w_c1
  · exact w_c2
  · exact w_c3
  · exact w_c4
  · exact w_c5
set_option maxRecDepth 65536 in
theorem w_t1 : (words1.take 24).all (fun c => isCode c || c.before args0 about1) = true := by decide +kernel
set_option maxRecDepth 65536 in
theorem w_t2 : (words1.drop 24).all (fun c => isCode c || c.before args0 about1) = true := by decide +kernel
theorem w_tables : (allAtoms (Jvm.Cond.code x code maxLocals ret :: tables_1)).before args0 about1 = true := by
  rw [allAtoms_all]
  show words1.all (fun c => c.before args0 about1) = true
  refine all_split ?_ w_codes
  rw [← List.take_append_drop 24 words1, List.all_append, w_t1, w_t2]
  rfl
set_option maxRecDepth 65536 in
theorem w_case : (Jvm.Cond.and given_1 narrow_1).before args0 about1 = true := by decide +kernel
theorem w_applies : (headSpec (Jvm.Cond.code x code maxLocals ret :: tables_1) room_1).applies x e0.platform about1 = true :=
  (Spec.applies_iff w_frames).mpr ⟨w_running, w_runnable, w_alone, w_named, w_hears, w_ripe, w_room, w_tables⟩
theorem atStart : AtStart classFile x code maxLocals ret World_1 tables_1 room_1 Calls_1 rest_1 Pre_1 launch0 p0 e0 about1 theMethod args0 below0 :=
  ⟨lists_1, trivial, launch0.admits_env _ _ _, launch0.least_env, fairChoices_fair.cas, fairChoices_fair.clock, w_frames, w_args, w_heap, w_applies, trivial, trivial, w_case⟩
end start1
theorem witness_1 : WitnessClaimed_1 := ⟨start1.p0, start1.e0, start1.about1, start1.theMethod, start1.args0, start1.below0, start1.atStart⟩
end Jvm.Pilot.@@N@@
