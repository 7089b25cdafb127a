import JvmDerived
import JvmDerived.Pilot.@@N@@Statement
import JvmDerived.Pilot.@@N@@Code
set_option linter.unusedVariables false
set_option linter.unusedSimpArgs false
namespace Jvm.Pilot.@@N@@
open Jvm Jvm.ClassFile Sem Op Lib Jvm.Free Jvm.Stand Jvm.LawKit Jvm.RoadKit Bundle Jvm.Pilot.@@N@@.Jvm.D
def own_bi (P : Prop) [Decidable P] : Int32 := if P then 1 else 0
theorem own_bi_t {P : Prop} [Decidable P] (h : P) : own_bi P = 1 := if_pos h
theorem own_bi_f {P : Prop} [Decidable P] (h : ¬ P) : own_bi P = 0 := if_neg h
theorem own_bi_01 (P : Prop) [Decidable P] : own_bi P = 0 ∨ own_bi P = 1 := by by_cases h : P <;> simp [own_bi, h]
theorem own_bi_eq {P Q : Prop} [Decidable P] [Decidable Q] (h : P ↔ Q) : own_bi P = own_bi Q := by by_cases q : P <;> simp [own_bi, q, ← h]
theorem own_bi_iff (P : Prop) [Decidable P] : own_bi P = 1 ↔ P := by by_cases q : P <;> simp [own_bi, q]
theorem own_bi_ne (P : Prop) [Decidable P] : own_bi P = 0 ↔ ¬ P := by by_cases q : P <;> simp [own_bi, q]
theorem own_ofNat {n : Nat} (h : n < 2147483648) : (Int32.ofNat n).toInt = (n : Int) := len_toInt h
theorem own_narZ {z : Int32} (h : z = 0 ∨ z = 1) : narrow .boolean (.int z) = .int z := by rcases h with rfl | rfl <;> rfl
theorem own_three {x i : Int32} (h : i = (x &&& (2147483647 : Int32)) % (3 : Int32)) : i = 0 ∨ i = 1 ∨ i = 2 := by
  have h1 := c_mask x 2147483647 31 (by decide) (by decide)
  have h2 := (c_irem (x &&& (2147483647 : Int32)) 3 3 rfl).1 (by omega)
  rw [← h] at h2
  simp only [← Int32.toInt_inj]
  show i.toInt = 0 ∨ i.toInt = 1 ∨ i.toInt = 2
  omega
theorem pn_1 : plainName "com/example/hasselt/hasselt/storage/Numbers" = true := by first | (simp [plainName, overriddenIn]; done) | decide +kernel
theorem d1_0 : decode prog_131_method_1_code 0 = .ok (.aload_n 0, 1) := by decide +kernel
theorem d1_1 : decode prog_131_method_1_code 1 = .ok (.invokespecial 1, 3) := by decide +kernel
theorem d1_4 : decode prog_131_method_1_code 4 = .ok (.aload_n 0, 1) := by decide +kernel
theorem d1_5 : decode prog_131_method_1_code 5 = .ok (.bipush 8, 2) := by decide +kernel
theorem d1_7 : decode prog_131_method_1_code 7 = .ok (.newarray .int, 2) := by decide +kernel
theorem d1_9 : decode prog_131_method_1_code 9 = .ok (.putfield 7, 3) := by decide +kernel
theorem d1_12 : decode prog_131_method_1_code 12 = .ok (.return_, 1) := by decide +kernel
theorem ef_1 (m : MethodId) (a1 : Addr) : entryFrame m #[(.ref a1)] 1 = mkF m 0 #[.val (.ref a1)] [] := by first | (simp [entryFrame, mkF, argsToLocals, Value.category]; done) | rfl
def Q1 (Z : State) (a1 : Addr) (h0 : Heap) (n0 : Nat) (v : Option Value) (h : Heap) (L : List Loc) : Prop := ∃ (fa : Addr) (kk : ClassId), v = none ∧ Fr n0 L ∧ Keep h0 h [a1] ∧ h0.size ≤ fa ∧ Fld Z h a1 "com/example/hasselt/hasselt/storage/Numbers" "free" "[I" (.ref fa) ∧ Fld Z h a1 "com/example/hasselt/hasselt/storage/Numbers" "freeCount" "I" (.int (0 : Int32)) ∧ Fld Z h a1 "com/example/hasselt/hasselt/storage/Numbers" "limit" "I" (.int (0 : Int32)) ∧ Arv Z h fa kk .int (8 : Int32) [(.int (0 : Int32)), (.int (0 : Int32)), (.int (0 : Int32)), (.int (0 : Int32)), (.int (0 : Int32)), (.int (0 : Int32)), (.int (0 : Int32)), (.int (0 : Int32))] (.int (0 : Int32))
set_option maxRecDepth 65536 in
set_option maxHeartbeats 40000000 in
theorem rm1 (l : Launch) (Z : State) (a0 : Array Value) (hw : ∀ d ∈ tables_1, d.before a0 Z = true) (ws : List Jvm.Cond) (a1 : Addr) (h0 : Heap) (n0 : Nat) (Z0 : n0 ≤ h0.size) (E1 : Exa Z h0 a1 "com/example/hasselt/hasselt/storage/Numbers") (ga1 : n0 ≤ a1) (F0 : Fld Z h0 a1 "com/example/hasselt/hasselt/storage/Numbers" "free" "[I" .null) (F1 : Fld Z h0 a1 "com/example/hasselt/hasselt/storage/Numbers" "freeCount" "I" (.int (0 : Int32))) (F2 : Fld Z h0 a1 "com/example/hasselt/hasselt/storage/Numbers" "limit" "I" (.int (0 : Int32))) :
    MetFree l (⟨"com/example/hasselt/hasselt/storage/Numbers", "<init>", "()V"⟩ : MethodName) (head1 (Jvm.Cond.code (⟨"com/example/hasselt/hasselt/storage/Numbers", "<init>", "()V"⟩ : MethodName) prog_131_method_1_code 1 none :: ws) ({ frames := 1, cells := 1, slots := 8, locals := 12 } : Room)) (fun a U => a = #[(.ref a1)] ∧ Z.Warmed39 U.vm ∧ U.heap = h0) (fun _ _ _ _ _ => True) (fun _ U o U' => ∃ v L, o = .returned v ∧ Q1 Z a1 h0 n0 v U'.heap L ∧ FrameEnd U o U' L ({ frames := 1, cells := 1, slots := 8, locals := 12 } : Room).cells ({ frames := 1, cells := 1, slots := 8, locals := 12 } : Room).slots) := by
  refine MetFree.of_bodySF (plainFor_of_name pn_1) hisR ?_
  intro p e s m args below meth c s₁ Bd hml0 hP hK
  obtain ⟨rfl, hZ, hh⟩ := hP
  have hx := Bd.exec
  have hby := Bd.bytes
  have hml : c.maxLocals = 1 := hml0
  have hown : s.vm.findClass "com/example/hasselt/hasselt/storage/Numbers" = some m.cls := findClass_of_methodNamed Bd.named
  have hnm := (name_of_methodNamed Bd.named Bd.method).1
  have X0 : Stand p l e ({ frames := 1, cells := 1, slots := 8, locals := 12 } : Room) s m #[(.ref a1)] below meth c s₁ [] 0 0 := Stand.of_body Bd
  have e0 : s₁.heap = h0 := by rw [← hh, Bd.state]; rfl
  have N0 := Fr.nil n0
  have pre0 : ∀ t, Steps p.tables e below (s₁.setTop (mkF m 0 #[.val (.ref a1)] [])) t → Steps p.tables e below (s₁.setTop (entryFrame m #[(.ref a1)] 1)) t := fun t k => castTop (ef_1 m a1) k
  have pre1 : ∀ t, Steps p.tables e below (s₁.setTop (mkF m 1 #[.val (.ref a1)] [(.ref a1)])) t → Steps p.tables e below (s₁.setTop (entryFrame m #[(.ref a1)] 1)) t := by
    intro t k
    refine pre0 t ?_
    refine XS.aloadN X0.here hx rfl (hb hby d1_0) rfl rfl ?_
    show Steps p.tables e below (s₁.setTop (mkF m 1 #[.val (.ref a1)] [(.ref a1)])) _
    exact k
  obtain ⟨T2, X2, e2, st2⟩ := initO X0 hx hZ hown (hw _ (List.mem_of_getElem? (i := 7) rfl)) (hw _ (List.mem_of_getElem? (i := 8) rfl)) (hw _ (List.mem_of_getElem? (i := 9) rfl)) e0 (g := (mkF m 1 #[.val (.ref a1)] [(.ref a1)])) rfl (by rw [hml]; rfl) rfl (hb hby d1_1) (by decide) (W := 0) (by show 2 * 0 + _ ≤ _; exact Nat.le_of_eq rfl) (by decide)
  have pre3 : ∀ t, Steps p.tables e below (T2.setTop (mkF m 4 #[.val (.ref a1)] [])) t → Steps p.tables e below (s₁.setTop (entryFrame m #[(.ref a1)] 1)) t := fun t k => pre1 t (st2 t k)
  have pre5 : ∀ t, Steps p.tables e below (T2.setTop (mkF m 7 #[.val (.ref a1)] [(.int (8 : Int32)), (.ref a1)])) t → Steps p.tables e below (s₁.setTop (entryFrame m #[(.ref a1)] 1)) t := by
    intro t k
    refine pre3 t ?_
    refine XS.aloadN X2.here hx rfl (hb hby d1_4) rfl rfl ?_
    show Steps p.tables e below (T2.setTop (mkF m 5 #[.val (.ref a1)] [(.ref a1)])) _
    refine XS.bipush X2.here hx rfl (hb hby d1_5) ?_
    show Steps p.tables e below (T2.setTop (mkF m 7 #[.val (.ref a1)] [(.int (8 : Int32)), (.ref a1)])) _
    exact k
  have K4 : Keep h0 h0 [a1] := (Keep.refl h0 [a1])
  obtain ⟨T6, h6, cA6, X6, e6, E6, A6, st6⟩ := newP X2 hx hZ (hw _ (List.mem_of_getElem? (i := 10) rfl)) e2 (g := (mkF m 7 #[.val (.ref a1)] [(.int (8 : Int32)), (.ref a1)])) rfl (hb hby d1_7) rfl (by decide) (cap := 8) (by decide) (by decide) (by decide) (by decide)
  obtain ⟨fa, gz6⟩ : ∃ z, z = h0.size := ⟨_, rfl⟩
  rw [← gz6] at A6 st6
  have g_fa : n0 ≤ fa := Nat.le_trans Z0 (Nat.le_of_eq gz6.symm)
  have s_fa : h0.size ≤ fa := Nat.le_trans K4.1 (Nat.le_of_eq gz6.symm)
  have ne_a1_fa : a1 ≠ fa := by rw [gz6]; exact Nat.ne_of_lt F0.lt
  have V6 : Arv Z h6 fa cA6 .int (8 : Int32) [(.int (0 : Int32)), (.int (0 : Int32)), (.int (0 : Int32)), (.int (0 : Int32)), (.int (0 : Int32)), (.int (0 : Int32)), (.int (0 : Int32)), (.int (0 : Int32))] (.int (0 : Int32)) := Arv.pad (Arv.new A6 (by decide)) (pad_rep [] (.int (0 : Int32)) 8)
  have pre7 : ∀ t, Steps p.tables e below (T6.setTop (mkF m 9 #[.val (.ref a1)] [(.ref fa), (.ref a1)])) t → Steps p.tables e below (s₁.setTop (entryFrame m #[(.ref a1)] 1)) t := fun t k => pre5 t (st6 t k)
  have F8_0 : Fld Z h6 a1 "com/example/hasselt/hasselt/storage/Numbers" "free" "[I" .null := (F0.ext E6)
  have F8_1 : Fld Z h6 a1 "com/example/hasselt/hasselt/storage/Numbers" "freeCount" "I" (.int (0 : Int32)) := (F1.ext E6)
  have F8_2 : Fld Z h6 a1 "com/example/hasselt/hasselt/storage/Numbers" "limit" "I" (.int (0 : Int32)) := (F2.ext E6)
  have E8_0 : Exa Z h6 a1 "com/example/hasselt/hasselt/storage/Numbers" := (E1.ext E6)
  have K8 : Keep h0 h6 [a1] := (K4.ext E6)
  have Z8 : n0 ≤ h6.size := (Nat.le_trans Z0 E6.1)
  obtain ⟨T10, h10, X10, e10, W10, st10⟩ := putF X6 hx hZ hown (host := "") (Or.inl (hw _ (List.mem_of_getElem? (i := 11) rfl))) Via.refl e6 F8_0 E8_0 (Or.inl (hw _ (List.mem_of_getElem? (i := 12) rfl))) (hw _ (List.mem_of_getElem? (i := 2) rfl)) (ty := (.array .int)) (by decide) rfl rfl (g := (mkF m 9 #[.val (.ref a1)] [(.ref fa), (.ref a1)])) rfl rfl (hb hby d1_9)
  have N10 := Fr.snoc X10 N0 ga1
  have pre11 : ∀ t, Steps p.tables e below (T10.setTop (mkF m 12 #[.val (.ref a1)] [])) t → Steps p.tables e below (s₁.setTop (entryFrame m #[(.ref a1)] 1)) t := fun t k => pre7 t (st10 t k)
  have F12_0 : Fld Z h10 a1 "com/example/hasselt/hasselt/storage/Numbers" "free" "[I" (.ref fa) := (F8_0.same W10)
  have F12_1 : Fld Z h10 a1 "com/example/hasselt/hasselt/storage/Numbers" "freeCount" "I" (.int (0 : Int32)) := (F8_1.other W10 (Or.inr (slot_ne (Or.inl (hw _ (List.mem_of_getElem? (i := 19) rfl))) (Or.inl (hw _ (List.mem_of_getElem? (i := 12) rfl))) (by decide) (t := .int) (t' := (.array .int)) (by decide) (by decide))))
  have F12_2 : Fld Z h10 a1 "com/example/hasselt/hasselt/storage/Numbers" "limit" "I" (.int (0 : Int32)) := (F8_2.other W10 (Or.inr (slot_ne (Or.inl (hw _ (List.mem_of_getElem? (i := 21) rfl))) (Or.inl (hw _ (List.mem_of_getElem? (i := 12) rfl))) (by decide) (t := .int) (t' := (.array .int)) (by decide) (by decide))))
  have E12_0 : Exa Z h10 a1 "com/example/hasselt/hasselt/storage/Numbers" := (E8_0.wr W10)
  have V12_0 : Arv Z h10 fa cA6 .int (8 : Int32) [(.int (0 : Int32)), (.int (0 : Int32)), (.int (0 : Int32)), (.int (0 : Int32)), (.int (0 : Int32)), (.int (0 : Int32)), (.int (0 : Int32)), (.int (0 : Int32))] (.int (0 : Int32)) := (V6.other W10 ne_a1_fa.symm)
  have K12 : Keep h0 h10 [a1] := (K8.wr W10 (Or.inl (List.mem_of_getElem? (i := 0) rfl)))
  have Z12 : n0 ≤ h10.size := (Nat.le_trans Z8 (Nat.le_of_eq W10.size.symm))
  obtain ⟨fs, hr, hrun, hended, hW, hsame⟩ := X10.leave (v := none) (fun _ => rfl)
  refine ⟨_, _, pre11 _ ?_, hrun, hended, _, _, rfl, ?_, ⟨_, rfl⟩, hW, hsame.mono (by decide) (by decide)⟩
  · exact X10.returnOut hx Bd.returns (hb hby d1_12) hr
  · show Q1 Z a1 h0 n0 _ T10.heap _
    rw [e10]
    exact ⟨fa, cA6, rfl, N10, K12, s_fa, F12_0, F12_1, F12_2, V12_0⟩
theorem pn_3 : plainName "com/example/hasselt/hasselt/storage/Numbers" = true := by first | (simp [plainName, overriddenIn]; done) | decide +kernel
theorem d3_0 : decode prog_131_method_2_code 0 = .ok (.aload_n 0, 1) := by decide +kernel
theorem d3_1 : decode prog_131_method_2_code 1 = .ok (.getfield 13, 3) := by decide +kernel
theorem d3_4 : decode prog_131_method_2_code 4 = .ok (.ifCond .le 26, 3) := by decide +kernel
theorem d3_7 : decode prog_131_method_2_code 7 = .ok (.aload_n 0, 1) := by decide +kernel
theorem d3_8 : decode prog_131_method_2_code 8 = .ok (.dup, 1) := by decide +kernel
theorem d3_9 : decode prog_131_method_2_code 9 = .ok (.getfield 13, 3) := by decide +kernel
theorem d3_12 : decode prog_131_method_2_code 12 = .ok (.iconst 1, 1) := by decide +kernel
theorem d3_13 : decode prog_131_method_2_code 13 = .ok (.isub, 1) := by decide +kernel
theorem d3_14 : decode prog_131_method_2_code 14 = .ok (.putfield 13, 3) := by decide +kernel
theorem d3_17 : decode prog_131_method_2_code 17 = .ok (.aload_n 0, 1) := by decide +kernel
theorem d3_18 : decode prog_131_method_2_code 18 = .ok (.getfield 7, 3) := by decide +kernel
theorem d3_21 : decode prog_131_method_2_code 21 = .ok (.aload_n 0, 1) := by decide +kernel
theorem d3_22 : decode prog_131_method_2_code 22 = .ok (.getfield 13, 3) := by decide +kernel
theorem d3_25 : decode prog_131_method_2_code 25 = .ok (.iaload, 1) := by decide +kernel
theorem d3_26 : decode prog_131_method_2_code 26 = .ok (.istore_n 1, 1) := by decide +kernel
theorem d3_27 : decode prog_131_method_2_code 27 = .ok (.goto 18, 3) := by decide +kernel
theorem d3_30 : decode prog_131_method_2_code 30 = .ok (.aload_n 0, 1) := by decide +kernel
theorem d3_31 : decode prog_131_method_2_code 31 = .ok (.getfield 17, 3) := by decide +kernel
theorem d3_34 : decode prog_131_method_2_code 34 = .ok (.istore_n 1, 1) := by decide +kernel
theorem d3_35 : decode prog_131_method_2_code 35 = .ok (.aload_n 0, 1) := by decide +kernel
theorem d3_36 : decode prog_131_method_2_code 36 = .ok (.dup, 1) := by decide +kernel
theorem d3_37 : decode prog_131_method_2_code 37 = .ok (.getfield 17, 3) := by decide +kernel
theorem d3_40 : decode prog_131_method_2_code 40 = .ok (.iconst 1, 1) := by decide +kernel
theorem d3_41 : decode prog_131_method_2_code 41 = .ok (.iadd, 1) := by decide +kernel
theorem d3_42 : decode prog_131_method_2_code 42 = .ok (.putfield 17, 3) := by decide +kernel
theorem d3_45 : decode prog_131_method_2_code 45 = .ok (.iload_n 1, 1) := by decide +kernel
theorem d3_46 : decode prog_131_method_2_code 46 = .ok (.ireturn, 1) := by decide +kernel
theorem ef_3a (m : MethodId) (a1 : Addr) : entryFrame m #[(.ref a1)] 2 = mkF m 0 #[.val (.ref a1), .unset] [] := by first | (simp [entryFrame, mkF, argsToLocals, Value.category]; done) | rfl
def Q3a (Z : State) (a1 : Addr) (fa : Addr) (q1 : Int32) (q2 : Int32) (h0 : Heap) (n0 : Nat) (v : Option Value) (h : Heap) (L : List Loc) : Prop := v = some (.int q2) ∧ Fr n0 L ∧ Keep h0 h [a1] ∧ Fld Z h a1 "com/example/hasselt/hasselt/storage/Numbers" "free" "[I" (.ref fa) ∧ Fld Z h a1 "com/example/hasselt/hasselt/storage/Numbers" "freeCount" "I" (.int q1) ∧ Fld Z h a1 "com/example/hasselt/hasselt/storage/Numbers" "limit" "I" (.int (q2 + (1 : Int32)))
set_option maxRecDepth 65536 in
set_option maxHeartbeats 40000000 in
theorem rm3a (l : Launch) (Z : State) (a0 : Array Value) (hw : ∀ d ∈ tables_1, d.before a0 Z = true) (ws : List Jvm.Cond) (a1 : Addr) (fa : Addr) (q1 : Int32) (q2 : Int32) (h0 : Heap) (n0 : Nat) (Z0 : n0 ≤ h0.size) (E1 : Exa Z h0 a1 "com/example/hasselt/hasselt/storage/Numbers") (ga1 : n0 ≤ a1) (F0 : Fld Z h0 a1 "com/example/hasselt/hasselt/storage/Numbers" "free" "[I" (.ref fa)) (F1 : Fld Z h0 a1 "com/example/hasselt/hasselt/storage/Numbers" "freeCount" "I" (.int q1)) (F2 : Fld Z h0 a1 "com/example/hasselt/hasselt/storage/Numbers" "limit" "I" (.int q2)) (hq : ¬ 0 < q1) :
    MetFree l (⟨"com/example/hasselt/hasselt/storage/Numbers", "take", "()I"⟩ : MethodName) (head1 (Jvm.Cond.code (⟨"com/example/hasselt/hasselt/storage/Numbers", "take", "()I"⟩ : MethodName) prog_131_method_2_code 2 (some .int) :: ws) ({ frames := 0, cells := 0, slots := 0, locals := 0 } : Room)) (fun a U => a = #[(.ref a1)] ∧ Z.Warmed39 U.vm ∧ U.heap = h0) (fun _ _ _ _ _ => True) (fun _ U o U' => ∃ v L, o = .returned v ∧ Q3a Z a1 fa q1 q2 h0 n0 v U'.heap L ∧ FrameEnd U o U' L ({ frames := 0, cells := 0, slots := 0, locals := 0 } : Room).cells ({ frames := 0, cells := 0, slots := 0, locals := 0 } : Room).slots) := by
  refine MetFree.of_bodySF (plainFor_of_name pn_3) hisR ?_
  intro p e s m args below meth c s₁ Bd hml0 hP hK
  obtain ⟨rfl, hZ, hh⟩ := hP
  have hx := Bd.exec
  have hby := Bd.bytes
  have hml : c.maxLocals = 2 := hml0
  have hown : s.vm.findClass "com/example/hasselt/hasselt/storage/Numbers" = some m.cls := findClass_of_methodNamed Bd.named
  have hnm := (name_of_methodNamed Bd.named Bd.method).1
  have X0 : Stand p l e ({ frames := 0, cells := 0, slots := 0, locals := 0 } : Room) s m #[(.ref a1)] below meth c s₁ [] 0 0 := Stand.of_body Bd
  have e0 : s₁.heap = h0 := by rw [← hh, Bd.state]; rfl
  have N0 := Fr.nil n0
  have pre0 : ∀ t, Steps p.tables e below (s₁.setTop (mkF m 0 #[.val (.ref a1), .unset] [])) t → Steps p.tables e below (s₁.setTop (entryFrame m #[(.ref a1)] 2)) t := fun t k => castTop (ef_3a m a1) k
  have pre1 : ∀ t, Steps p.tables e below (s₁.setTop (mkF m 1 #[.val (.ref a1), .unset] [(.ref a1)])) t → Steps p.tables e below (s₁.setTop (entryFrame m #[(.ref a1)] 2)) t := by
    intro t k
    refine pre0 t ?_
    refine XS.aloadN X0.here hx rfl (hb hby d3_0) rfl rfl ?_
    show Steps p.tables e below (s₁.setTop (mkF m 1 #[.val (.ref a1), .unset] [(.ref a1)])) _
    exact k
  obtain ⟨T2, X2, e2, st2⟩ := getF X0 hx hZ hown (host := "") (Or.inl (hw _ (List.mem_of_getElem? (i := 18) rfl))) Via.refl e0 F1 (g := (mkF m 1 #[.val (.ref a1), .unset] [(.ref a1)])) rfl rfl (hb hby d3_1)
  have pre3 : ∀ t, Steps p.tables e below (T2.setTop (mkF m 4 #[.val (.ref a1), .unset] [(.int q1)])) t → Steps p.tables e below (s₁.setTop (entryFrame m #[(.ref a1)] 2)) t := fun t k => pre1 t (st2 t k)
  have pre4 : ∀ t, Steps p.tables e below (T2.setTop (mkF m 31 #[.val (.ref a1), .unset] [(.ref a1)])) t → Steps p.tables e below (s₁.setTop (entryFrame m #[(.ref a1)] 2)) t := by
    intro t k
    refine pre3 t ?_
    refine XS.ifYes X2.here hx rfl (pc0 := 4) (pc' := 30) rfl (hb hby d3_4) rfl (XT.i0_le_t hq) (by decide) (by decide) ?_
    show Steps p.tables e below (T2.setTop (mkF m 30 #[.val (.ref a1), .unset] [])) _
    refine XS.aloadN X2.here hx rfl (hb hby d3_30) rfl rfl ?_
    show Steps p.tables e below (T2.setTop (mkF m 31 #[.val (.ref a1), .unset] [(.ref a1)])) _
    exact k
  obtain ⟨T5, X5, e5, st5⟩ := getF X2 hx hZ hown (host := "") (Or.inl (hw _ (List.mem_of_getElem? (i := 20) rfl))) Via.refl e2 F2 (g := (mkF m 31 #[.val (.ref a1), .unset] [(.ref a1)])) rfl rfl (hb hby d3_31)
  have pre6 : ∀ t, Steps p.tables e below (T5.setTop (mkF m 34 #[.val (.ref a1), .unset] [(.int q2)])) t → Steps p.tables e below (s₁.setTop (entryFrame m #[(.ref a1)] 2)) t := fun t k => pre4 t (st5 t k)
  have pre7 : ∀ t, Steps p.tables e below (T5.setTop (mkF m 37 #[.val (.ref a1), .val (.int q2)] [(.ref a1), (.ref a1)])) t → Steps p.tables e below (s₁.setTop (entryFrame m #[(.ref a1)] 2)) t := by
    intro t k
    refine pre6 t ?_
    refine XS.istoreN X5.here hx rfl (hb hby d3_34) rfl (l' := #[.val (.ref a1), .val (.int q2)]) rfl ?_
    show Steps p.tables e below (T5.setTop (mkF m 35 #[.val (.ref a1), .val (.int q2)] [])) _
    refine XS.aloadN X5.here hx rfl (hb hby d3_35) rfl rfl ?_
    show Steps p.tables e below (T5.setTop (mkF m 36 #[.val (.ref a1), .val (.int q2)] [(.ref a1)])) _
    refine XS.dup X5.here hx rfl (hb hby d3_36) rfl rfl ?_
    show Steps p.tables e below (T5.setTop (mkF m 37 #[.val (.ref a1), .val (.int q2)] [(.ref a1), (.ref a1)])) _
    exact k
  obtain ⟨T8, X8, e8, st8⟩ := getF X5 hx hZ hown (host := "") (Or.inl (hw _ (List.mem_of_getElem? (i := 20) rfl))) Via.refl e5 F2 (g := (mkF m 37 #[.val (.ref a1), .val (.int q2)] [(.ref a1), (.ref a1)])) rfl rfl (hb hby d3_37)
  have pre9 : ∀ t, Steps p.tables e below (T8.setTop (mkF m 40 #[.val (.ref a1), .val (.int q2)] [(.int q2), (.ref a1)])) t → Steps p.tables e below (s₁.setTop (entryFrame m #[(.ref a1)] 2)) t := fun t k => pre7 t (st8 t k)
  have pre11 : ∀ t, Steps p.tables e below (T8.setTop (mkF m 42 #[.val (.ref a1), .val (.int q2)] [(.int (q2 + (1 : Int32))), (.ref a1)])) t → Steps p.tables e below (s₁.setTop (entryFrame m #[(.ref a1)] 2)) t := by
    intro t k
    refine pre9 t ?_
    refine XS.iconst X8.here hx rfl (hb hby d3_40) ?_
    show Steps p.tables e below (T8.setTop (mkF m 41 #[.val (.ref a1), .val (.int q2)] [(.int (1 : Int32)), (.int q2), (.ref a1)])) _
    refine XS.iadd X8.here hx rfl (hb hby d3_41) rfl ?_
    show Steps p.tables e below (T8.setTop (mkF m 42 #[.val (.ref a1), .val (.int q2)] [(.int (q2 + (1 : Int32))), (.ref a1)])) _
    exact k
  have K10 : Keep h0 h0 [a1] := (Keep.refl h0 [a1])
  obtain ⟨T12, h12, X12, e12, W12, st12⟩ := putF X8 hx hZ hown (host := "") (Or.inl (hw _ (List.mem_of_getElem? (i := 20) rfl))) Via.refl e8 F2 E1 (Or.inl (hw _ (List.mem_of_getElem? (i := 21) rfl))) (hw _ (List.mem_of_getElem? (i := 2) rfl)) (ty := .int) (by decide) rfl rfl (g := (mkF m 42 #[.val (.ref a1), .val (.int q2)] [(.int (q2 + (1 : Int32))), (.ref a1)])) rfl rfl (hb hby d3_42)
  have N12 := Fr.snoc X12 N0 ga1
  have pre13 : ∀ t, Steps p.tables e below (T12.setTop (mkF m 45 #[.val (.ref a1), .val (.int q2)] [])) t → Steps p.tables e below (s₁.setTop (entryFrame m #[(.ref a1)] 2)) t := fun t k => pre11 t (st12 t k)
  have F14_0 : Fld Z h12 a1 "com/example/hasselt/hasselt/storage/Numbers" "free" "[I" (.ref fa) := (F0.other W12 (Or.inr (slot_ne (Or.inl (hw _ (List.mem_of_getElem? (i := 12) rfl))) (Or.inl (hw _ (List.mem_of_getElem? (i := 21) rfl))) (by decide) (t := (.array .int)) (t' := .int) (by decide) (by decide))))
  have F14_1 : Fld Z h12 a1 "com/example/hasselt/hasselt/storage/Numbers" "freeCount" "I" (.int q1) := (F1.other W12 (Or.inr (slot_ne (Or.inl (hw _ (List.mem_of_getElem? (i := 19) rfl))) (Or.inl (hw _ (List.mem_of_getElem? (i := 21) rfl))) (by decide) (t := .int) (t' := .int) (by decide) (by decide))))
  have F14_2 : Fld Z h12 a1 "com/example/hasselt/hasselt/storage/Numbers" "limit" "I" (.int (q2 + (1 : Int32))) := (F2.same W12)
  have E14_0 : Exa Z h12 a1 "com/example/hasselt/hasselt/storage/Numbers" := (E1.wr W12)
  have K14 : Keep h0 h12 [a1] := (K10.wr W12 (Or.inl (List.mem_of_getElem? (i := 0) rfl)))
  have Z14 : n0 ≤ h12.size := (Nat.le_trans Z0 (Nat.le_of_eq W12.size.symm))
  have pre15 : ∀ t, Steps p.tables e below (T12.setTop (mkF m 46 #[.val (.ref a1), .val (.int q2)] [(.int q2)])) t → Steps p.tables e below (s₁.setTop (entryFrame m #[(.ref a1)] 2)) t := by
    intro t k
    refine pre13 t ?_
    refine XS.iloadN X12.here hx rfl (hb hby d3_45) rfl ?_
    show Steps p.tables e below (T12.setTop (mkF m 46 #[.val (.ref a1), .val (.int q2)] [(.int q2)])) _
    exact k
  obtain ⟨fs, hr, hrun, hended, hW, hsame⟩ := X12.leave (v := some (.int q2)) (fun h => by rw [Bd.returns] at h; cases h)
  refine ⟨_, _, pre15 _ ?_, hrun, hended, _, _, rfl, ?_, ⟨_, rfl⟩, hW, hsame.mono (by decide) (by decide)⟩
  · exact retOut X12 hx Bd.returns rfl (Or.inl ⟨rfl, by simp, _, rfl⟩) (hb hby d3_46) hr
  · show Q3a Z a1 fa q1 q2 h0 n0 _ T12.heap _
    rw [e12]
    exact ⟨rfl, N12, K14, F14_0, F14_1, F14_2⟩
theorem ef_3b (m : MethodId) (a1 : Addr) : entryFrame m #[(.ref a1)] 2 = mkF m 0 #[.val (.ref a1), .unset] [] := by first | (simp [entryFrame, mkF, argsToLocals, Value.category]; done) | rfl
def Q3b (Z : State) (a1 : Addr) (fa : Addr) (q1 : Int32) (q2 : Int32) (kk : ClassId) (vs : List Value) (rr : Int32) (h0 : Heap) (n0 : Nat) (v : Option Value) (h : Heap) (L : List Loc) : Prop := v = some (.int rr) ∧ Fr n0 L ∧ Keep h0 h [a1] ∧ Fld Z h a1 "com/example/hasselt/hasselt/storage/Numbers" "free" "[I" (.ref fa) ∧ Fld Z h a1 "com/example/hasselt/hasselt/storage/Numbers" "freeCount" "I" (.int (q1 - (1 : Int32))) ∧ Fld Z h a1 "com/example/hasselt/hasselt/storage/Numbers" "limit" "I" (.int q2)
set_option maxRecDepth 65536 in
set_option maxHeartbeats 40000000 in
theorem rm3b (l : Launch) (Z : State) (a0 : Array Value) (hw : ∀ d ∈ tables_1, d.before a0 Z = true) (ws : List Jvm.Cond) (a1 : Addr) (fa : Addr) (q1 : Int32) (q2 : Int32) (kk : ClassId) (vs : List Value) (rr : Int32) (h0 : Heap) (n0 : Nat) (Z0 : n0 ≤ h0.size) (E1 : Exa Z h0 a1 "com/example/hasselt/hasselt/storage/Numbers") (ga1 : n0 ≤ a1) (F0 : Fld Z h0 a1 "com/example/hasselt/hasselt/storage/Numbers" "free" "[I" (.ref fa)) (F1 : Fld Z h0 a1 "com/example/hasselt/hasselt/storage/Numbers" "freeCount" "I" (.int q1)) (F2 : Fld Z h0 a1 "com/example/hasselt/hasselt/storage/Numbers" "limit" "I" (.int q2)) (V0 : Arv Z h0 fa kk .int (8 : Int32) vs (.int (0 : Int32))) (nfa : a1 ≠ fa) (hq : 0 < q1) (hj : ¬ (q1 - (1 : Int32)) < 0 ∧ (q1 - (1 : Int32)) < (8 : Int32)) (hat : vs.getD (q1 - (1 : Int32)).toNatClampNeg (.int (0 : Int32)) = .int rr) :
    MetFree l (⟨"com/example/hasselt/hasselt/storage/Numbers", "take", "()I"⟩ : MethodName) (head1 (Jvm.Cond.code (⟨"com/example/hasselt/hasselt/storage/Numbers", "take", "()I"⟩ : MethodName) prog_131_method_2_code 2 (some .int) :: ws) ({ frames := 0, cells := 0, slots := 0, locals := 0 } : Room)) (fun a U => a = #[(.ref a1)] ∧ Z.Warmed39 U.vm ∧ U.heap = h0) (fun _ _ _ _ _ => True) (fun _ U o U' => ∃ v L, o = .returned v ∧ Q3b Z a1 fa q1 q2 kk vs rr h0 n0 v U'.heap L ∧ FrameEnd U o U' L ({ frames := 0, cells := 0, slots := 0, locals := 0 } : Room).cells ({ frames := 0, cells := 0, slots := 0, locals := 0 } : Room).slots) := by
  refine MetFree.of_bodySF (plainFor_of_name pn_3) hisR ?_
  intro p e s m args below meth c s₁ Bd hml0 hP hK
  obtain ⟨rfl, hZ, hh⟩ := hP
  have hx := Bd.exec
  have hby := Bd.bytes
  have hml : c.maxLocals = 2 := hml0
  have hown : s.vm.findClass "com/example/hasselt/hasselt/storage/Numbers" = some m.cls := findClass_of_methodNamed Bd.named
  have hnm := (name_of_methodNamed Bd.named Bd.method).1
  have X0 : Stand p l e ({ frames := 0, cells := 0, slots := 0, locals := 0 } : Room) s m #[(.ref a1)] below meth c s₁ [] 0 0 := Stand.of_body Bd
  have e0 : s₁.heap = h0 := by rw [← hh, Bd.state]; rfl
  have N0 := Fr.nil n0
  have pre0 : ∀ t, Steps p.tables e below (s₁.setTop (mkF m 0 #[.val (.ref a1), .unset] [])) t → Steps p.tables e below (s₁.setTop (entryFrame m #[(.ref a1)] 2)) t := fun t k => castTop (ef_3b m a1) k
  have pre1 : ∀ t, Steps p.tables e below (s₁.setTop (mkF m 1 #[.val (.ref a1), .unset] [(.ref a1)])) t → Steps p.tables e below (s₁.setTop (entryFrame m #[(.ref a1)] 2)) t := by
    intro t k
    refine pre0 t ?_
    refine XS.aloadN X0.here hx rfl (hb hby d3_0) rfl rfl ?_
    show Steps p.tables e below (s₁.setTop (mkF m 1 #[.val (.ref a1), .unset] [(.ref a1)])) _
    exact k
  obtain ⟨T2, X2, e2, st2⟩ := getF X0 hx hZ hown (host := "") (Or.inl (hw _ (List.mem_of_getElem? (i := 18) rfl))) Via.refl e0 F1 (g := (mkF m 1 #[.val (.ref a1), .unset] [(.ref a1)])) rfl rfl (hb hby d3_1)
  have pre3 : ∀ t, Steps p.tables e below (T2.setTop (mkF m 4 #[.val (.ref a1), .unset] [(.int q1)])) t → Steps p.tables e below (s₁.setTop (entryFrame m #[(.ref a1)] 2)) t := fun t k => pre1 t (st2 t k)
  have pre4 : ∀ t, Steps p.tables e below (T2.setTop (mkF m 9 #[.val (.ref a1), .unset] [(.ref a1), (.ref a1)])) t → Steps p.tables e below (s₁.setTop (entryFrame m #[(.ref a1)] 2)) t := by
    intro t k
    refine pre3 t ?_
    refine XS.ifNo X2.here hx rfl (hb hby d3_4) rfl (XT.i0_le_f hq) ?_
    show Steps p.tables e below (T2.setTop (mkF m 7 #[.val (.ref a1), .unset] [])) _
    refine XS.aloadN X2.here hx rfl (hb hby d3_7) rfl rfl ?_
    show Steps p.tables e below (T2.setTop (mkF m 8 #[.val (.ref a1), .unset] [(.ref a1)])) _
    refine XS.dup X2.here hx rfl (hb hby d3_8) rfl rfl ?_
    show Steps p.tables e below (T2.setTop (mkF m 9 #[.val (.ref a1), .unset] [(.ref a1), (.ref a1)])) _
    exact k
  obtain ⟨T5, X5, e5, st5⟩ := getF X2 hx hZ hown (host := "") (Or.inl (hw _ (List.mem_of_getElem? (i := 18) rfl))) Via.refl e2 F1 (g := (mkF m 9 #[.val (.ref a1), .unset] [(.ref a1), (.ref a1)])) rfl rfl (hb hby d3_9)
  have pre6 : ∀ t, Steps p.tables e below (T5.setTop (mkF m 12 #[.val (.ref a1), .unset] [(.int q1), (.ref a1)])) t → Steps p.tables e below (s₁.setTop (entryFrame m #[(.ref a1)] 2)) t := fun t k => pre4 t (st5 t k)
  have pre8 : ∀ t, Steps p.tables e below (T5.setTop (mkF m 14 #[.val (.ref a1), .unset] [(.int (q1 - (1 : Int32))), (.ref a1)])) t → Steps p.tables e below (s₁.setTop (entryFrame m #[(.ref a1)] 2)) t := by
    intro t k
    refine pre6 t ?_
    refine XS.iconst X5.here hx rfl (hb hby d3_12) ?_
    show Steps p.tables e below (T5.setTop (mkF m 13 #[.val (.ref a1), .unset] [(.int (1 : Int32)), (.int q1), (.ref a1)])) _
    refine XS.isub X5.here hx rfl (hb hby d3_13) rfl ?_
    show Steps p.tables e below (T5.setTop (mkF m 14 #[.val (.ref a1), .unset] [(.int (q1 - (1 : Int32))), (.ref a1)])) _
    exact k
  have K7 : Keep h0 h0 [a1] := (Keep.refl h0 [a1])
  obtain ⟨T9, h9, X9, e9, W9, st9⟩ := putF X5 hx hZ hown (host := "") (Or.inl (hw _ (List.mem_of_getElem? (i := 18) rfl))) Via.refl e5 F1 E1 (Or.inl (hw _ (List.mem_of_getElem? (i := 19) rfl))) (hw _ (List.mem_of_getElem? (i := 2) rfl)) (ty := .int) (by decide) rfl rfl (g := (mkF m 14 #[.val (.ref a1), .unset] [(.int (q1 - (1 : Int32))), (.ref a1)])) rfl rfl (hb hby d3_14)
  have N9 := Fr.snoc X9 N0 ga1
  have pre10 : ∀ t, Steps p.tables e below (T9.setTop (mkF m 17 #[.val (.ref a1), .unset] [])) t → Steps p.tables e below (s₁.setTop (entryFrame m #[(.ref a1)] 2)) t := fun t k => pre8 t (st9 t k)
  have F11_0 : Fld Z h9 a1 "com/example/hasselt/hasselt/storage/Numbers" "free" "[I" (.ref fa) := (F0.other W9 (Or.inr (slot_ne (Or.inl (hw _ (List.mem_of_getElem? (i := 12) rfl))) (Or.inl (hw _ (List.mem_of_getElem? (i := 19) rfl))) (by decide) (t := (.array .int)) (t' := .int) (by decide) (by decide))))
  have F11_1 : Fld Z h9 a1 "com/example/hasselt/hasselt/storage/Numbers" "freeCount" "I" (.int (q1 - (1 : Int32))) := (F1.same W9)
  have F11_2 : Fld Z h9 a1 "com/example/hasselt/hasselt/storage/Numbers" "limit" "I" (.int q2) := (F2.other W9 (Or.inr (slot_ne (Or.inl (hw _ (List.mem_of_getElem? (i := 21) rfl))) (Or.inl (hw _ (List.mem_of_getElem? (i := 19) rfl))) (by decide) (t := .int) (t' := .int) (by decide) (by decide))))
  have E11_0 : Exa Z h9 a1 "com/example/hasselt/hasselt/storage/Numbers" := (E1.wr W9)
  have V11_0 : Arv Z h9 fa kk .int (8 : Int32) vs (.int (0 : Int32)) := (V0.other W9 nfa.symm)
  have K11 : Keep h0 h9 [a1] := (K7.wr W9 (Or.inl (List.mem_of_getElem? (i := 0) rfl)))
  have Z11 : n0 ≤ h9.size := (Nat.le_trans Z0 (Nat.le_of_eq W9.size.symm))
  have pre12 : ∀ t, Steps p.tables e below (T9.setTop (mkF m 18 #[.val (.ref a1), .unset] [(.ref a1)])) t → Steps p.tables e below (s₁.setTop (entryFrame m #[(.ref a1)] 2)) t := by
    intro t k
    refine pre10 t ?_
    refine XS.aloadN X9.here hx rfl (hb hby d3_17) rfl rfl ?_
    show Steps p.tables e below (T9.setTop (mkF m 18 #[.val (.ref a1), .unset] [(.ref a1)])) _
    exact k
  obtain ⟨T13, X13, e13, st13⟩ := getF X9 hx hZ hown (host := "") (Or.inl (hw _ (List.mem_of_getElem? (i := 11) rfl))) Via.refl e9 F11_0 (g := (mkF m 18 #[.val (.ref a1), .unset] [(.ref a1)])) rfl rfl (hb hby d3_18)
  have pre14 : ∀ t, Steps p.tables e below (T13.setTop (mkF m 21 #[.val (.ref a1), .unset] [(.ref fa)])) t → Steps p.tables e below (s₁.setTop (entryFrame m #[(.ref a1)] 2)) t := fun t k => pre12 t (st13 t k)
  have pre15 : ∀ t, Steps p.tables e below (T13.setTop (mkF m 22 #[.val (.ref a1), .unset] [(.ref a1), (.ref fa)])) t → Steps p.tables e below (s₁.setTop (entryFrame m #[(.ref a1)] 2)) t := by
    intro t k
    refine pre14 t ?_
    refine XS.aloadN X13.here hx rfl (hb hby d3_21) rfl rfl ?_
    show Steps p.tables e below (T13.setTop (mkF m 22 #[.val (.ref a1), .unset] [(.ref a1), (.ref fa)])) _
    exact k
  obtain ⟨T16, X16, e16, st16⟩ := getF X13 hx hZ hown (host := "") (Or.inl (hw _ (List.mem_of_getElem? (i := 18) rfl))) Via.refl e13 F11_1 (g := (mkF m 22 #[.val (.ref a1), .unset] [(.ref a1), (.ref fa)])) rfl rfl (hb hby d3_22)
  have pre17 : ∀ t, Steps p.tables e below (T16.setTop (mkF m 25 #[.val (.ref a1), .unset] [(.int (q1 - (1 : Int32))), (.ref fa)])) t → Steps p.tables e below (s₁.setTop (entryFrame m #[(.ref a1)] 2)) t := fun t k => pre15 t (st16 t k)
  obtain ⟨cc18, Ar18, q1_18, Sz18, q3_18, Hs18, G18⟩ := id V11_0
  have hin18 : ¬ ((q1 - (1 : Int32)) < 0 ∨ cc18.slots.size ≤ ((q1 - (1 : Int32)) : Int32).toNatClampNeg) := inb_of Sz18 hj
  have hat18 : cc18.slots[((q1 - (1 : Int32)) : Int32).toNatClampNeg]? = some (.int rr) := Hs18.at hin18 hat
  have pre20 : ∀ t, Steps p.tables e below (T16.setTop (mkF m 46 #[.val (.ref a1), .val (.int rr)] [(.int rr)])) t → Steps p.tables e below (s₁.setTop (entryFrame m #[(.ref a1)] 2)) t := by
    intro t k
    refine pre17 t ?_
    refine X16.iaload hx (j := (q1 - (1 : Int32))) (v := (.int rr)) (by rw [e16]; exact Ar18.1) (State.isArrayOf_alike hZ.alike Ar18.2.1) Ar18.2.2 hin18 hat18 (g := (mkF m 25 #[.val (.ref a1), .unset] [(.int (q1 - (1 : Int32))), (.ref fa)])) rfl rfl (hb hby d3_25) _ ?_
    show Steps p.tables e below (T16.setTop (mkF m 26 #[.val (.ref a1), .unset] [(.int rr)])) _
    refine XS.istoreN X16.here hx rfl (hb hby d3_26) rfl (l' := #[.val (.ref a1), .val (.int rr)]) rfl ?_
    show Steps p.tables e below (T16.setTop (mkF m 27 #[.val (.ref a1), .val (.int rr)] [])) _
    refine XS.goto X16.here hx rfl (pc0 := 27) (pc' := 45) rfl (hb hby d3_27) (by decide) (by decide) ?_
    show Steps p.tables e below (T16.setTop (mkF m 45 #[.val (.ref a1), .val (.int rr)] [])) _
    refine XS.iloadN X16.here hx rfl (hb hby d3_45) rfl ?_
    show Steps p.tables e below (T16.setTop (mkF m 46 #[.val (.ref a1), .val (.int rr)] [(.int rr)])) _
    exact k
  obtain ⟨fs, hr, hrun, hended, hW, hsame⟩ := X16.leave (v := some (.int rr)) (fun h => by rw [Bd.returns] at h; cases h)
  refine ⟨_, _, pre20 _ ?_, hrun, hended, _, _, rfl, ?_, ⟨_, rfl⟩, hW, hsame.mono (by decide) (by decide)⟩
  · exact retOut X16 hx Bd.returns rfl (Or.inl ⟨rfl, by simp, _, rfl⟩) (hb hby d3_46) hr
  · show Q3b Z a1 fa q1 q2 kk vs rr h0 n0 _ T16.heap _
    rw [e16]
    exact ⟨rfl, N9, K11, F11_0, F11_1, F11_2⟩
theorem pn_5 : plainName "com/example/hasselt/hasselt/storage/Numbers" = true := by first | (simp [plainName, overriddenIn]; done) | decide +kernel
theorem d5_0 : decode prog_131_method_3_code 0 = .ok (.aload_n 0, 1) := by decide +kernel
theorem d5_1 : decode prog_131_method_3_code 1 = .ok (.getfield 13, 3) := by decide +kernel
theorem d5_4 : decode prog_131_method_3_code 4 = .ok (.aload_n 0, 1) := by decide +kernel
theorem d5_5 : decode prog_131_method_3_code 5 = .ok (.getfield 7, 3) := by decide +kernel
theorem d5_8 : decode prog_131_method_3_code 8 = .ok (.arraylength, 1) := by decide +kernel
theorem d5_9 : decode prog_131_method_3_code 9 = .ok (.if_icmp .ne 20, 3) := by decide +kernel
theorem d5_29 : decode prog_131_method_3_code 29 = .ok (.aload_n 0, 1) := by decide +kernel
theorem d5_30 : decode prog_131_method_3_code 30 = .ok (.getfield 7, 3) := by decide +kernel
theorem d5_33 : decode prog_131_method_3_code 33 = .ok (.aload_n 0, 1) := by decide +kernel
theorem d5_34 : decode prog_131_method_3_code 34 = .ok (.getfield 13, 3) := by decide +kernel
theorem d5_37 : decode prog_131_method_3_code 37 = .ok (.iload_n 1, 1) := by decide +kernel
theorem d5_38 : decode prog_131_method_3_code 38 = .ok (.iastore, 1) := by decide +kernel
theorem d5_39 : decode prog_131_method_3_code 39 = .ok (.aload_n 0, 1) := by decide +kernel
theorem d5_40 : decode prog_131_method_3_code 40 = .ok (.dup, 1) := by decide +kernel
theorem d5_41 : decode prog_131_method_3_code 41 = .ok (.getfield 13, 3) := by decide +kernel
theorem d5_44 : decode prog_131_method_3_code 44 = .ok (.iconst 1, 1) := by decide +kernel
theorem d5_45 : decode prog_131_method_3_code 45 = .ok (.iadd, 1) := by decide +kernel
theorem d5_46 : decode prog_131_method_3_code 46 = .ok (.putfield 13, 3) := by decide +kernel
theorem d5_49 : decode prog_131_method_3_code 49 = .ok (.return_, 1) := by decide +kernel
theorem ef_5 (m : MethodId) (a1 : Addr) (p1 : Int32) : entryFrame m #[(.ref a1), (.int p1)] 2 = mkF m 0 #[.val (.ref a1), .val (.int p1)] [] := by first | (simp [entryFrame, mkF, argsToLocals, Value.category]; done) | rfl
def Q5 (Z : State) (a1 : Addr) (p1 : Int32) (fa : Addr) (q1 : Int32) (q2 : Int32) (kk : ClassId) (vs : List Value) (ix : Nat) (h0 : Heap) (n0 : Nat) (v : Option Value) (h : Heap) (L : List Loc) : Prop := v = none ∧ Fr n0 L ∧ Keep h0 h [a1, fa] ∧ Fld Z h a1 "com/example/hasselt/hasselt/storage/Numbers" "free" "[I" (.ref fa) ∧ Fld Z h a1 "com/example/hasselt/hasselt/storage/Numbers" "freeCount" "I" (.int (q1 + (1 : Int32))) ∧ Fld Z h a1 "com/example/hasselt/hasselt/storage/Numbers" "limit" "I" (.int q2) ∧ Arv Z h fa kk .int (8 : Int32) (vs.set ix (.int p1)) (.int (0 : Int32))
set_option maxRecDepth 65536 in
set_option maxHeartbeats 40000000 in
theorem rm5 (l : Launch) (Z : State) (a0 : Array Value) (hw : ∀ d ∈ tables_1, d.before a0 Z = true) (ws : List Jvm.Cond) (a1 : Addr) (p1 : Int32) (fa : Addr) (q1 : Int32) (q2 : Int32) (kk : ClassId) (vs : List Value) (ix : Nat) (h0 : Heap) (n0 : Nat) (Z0 : n0 ≤ h0.size) (E1 : Exa Z h0 a1 "com/example/hasselt/hasselt/storage/Numbers") (ga1 : n0 ≤ a1) (F0 : Fld Z h0 a1 "com/example/hasselt/hasselt/storage/Numbers" "free" "[I" (.ref fa)) (F1 : Fld Z h0 a1 "com/example/hasselt/hasselt/storage/Numbers" "freeCount" "I" (.int q1)) (F2 : Fld Z h0 a1 "com/example/hasselt/hasselt/storage/Numbers" "limit" "I" (.int q2)) (V0 : Arv Z h0 fa kk .int (8 : Int32) vs (.int (0 : Int32))) (nfa : a1 ≠ fa) (gfa : n0 ≤ fa) (hq : ¬ q1 = (8 : Int32)) (hj : ¬ q1 < 0 ∧ q1 < (8 : Int32)) (hji : q1.toNatClampNeg = ix) (hi : ix < vs.length) :
    MetFree l (⟨"com/example/hasselt/hasselt/storage/Numbers", "giveBack", "(I)V"⟩ : MethodName) (head1 (Jvm.Cond.code (⟨"com/example/hasselt/hasselt/storage/Numbers", "giveBack", "(I)V"⟩ : MethodName) prog_131_method_3_code 2 none :: ws) ({ frames := 0, cells := 0, slots := 0, locals := 0 } : Room)) (fun a U => a = #[(.ref a1), (.int p1)] ∧ Z.Warmed39 U.vm ∧ U.heap = h0) (fun _ _ _ _ _ => True) (fun _ U o U' => ∃ v L, o = .returned v ∧ Q5 Z a1 p1 fa q1 q2 kk vs ix h0 n0 v U'.heap L ∧ FrameEnd U o U' L ({ frames := 0, cells := 0, slots := 0, locals := 0 } : Room).cells ({ frames := 0, cells := 0, slots := 0, locals := 0 } : Room).slots) := by
  refine MetFree.of_bodySF (plainFor_of_name pn_5) hisR ?_
  intro p e s m args below meth c s₁ Bd hml0 hP hK
  obtain ⟨rfl, hZ, hh⟩ := hP
  have hx := Bd.exec
  have hby := Bd.bytes
  have hml : c.maxLocals = 2 := hml0
  have hown : s.vm.findClass "com/example/hasselt/hasselt/storage/Numbers" = some m.cls := findClass_of_methodNamed Bd.named
  have hnm := (name_of_methodNamed Bd.named Bd.method).1
  have X0 : Stand p l e ({ frames := 0, cells := 0, slots := 0, locals := 0 } : Room) s m #[(.ref a1), (.int p1)] below meth c s₁ [] 0 0 := Stand.of_body Bd
  have e0 : s₁.heap = h0 := by rw [← hh, Bd.state]; rfl
  have N0 := Fr.nil n0
  have pre0 : ∀ t, Steps p.tables e below (s₁.setTop (mkF m 0 #[.val (.ref a1), .val (.int p1)] [])) t → Steps p.tables e below (s₁.setTop (entryFrame m #[(.ref a1), (.int p1)] 2)) t := fun t k => castTop (ef_5 m a1 p1) k
  have pre1 : ∀ t, Steps p.tables e below (s₁.setTop (mkF m 1 #[.val (.ref a1), .val (.int p1)] [(.ref a1)])) t → Steps p.tables e below (s₁.setTop (entryFrame m #[(.ref a1), (.int p1)] 2)) t := by
    intro t k
    refine pre0 t ?_
    refine XS.aloadN X0.here hx rfl (hb hby d5_0) rfl rfl ?_
    show Steps p.tables e below (s₁.setTop (mkF m 1 #[.val (.ref a1), .val (.int p1)] [(.ref a1)])) _
    exact k
  obtain ⟨T2, X2, e2, st2⟩ := getF X0 hx hZ hown (host := "") (Or.inl (hw _ (List.mem_of_getElem? (i := 18) rfl))) Via.refl e0 F1 (g := (mkF m 1 #[.val (.ref a1), .val (.int p1)] [(.ref a1)])) rfl rfl (hb hby d5_1)
  have pre3 : ∀ t, Steps p.tables e below (T2.setTop (mkF m 4 #[.val (.ref a1), .val (.int p1)] [(.int q1)])) t → Steps p.tables e below (s₁.setTop (entryFrame m #[(.ref a1), (.int p1)] 2)) t := fun t k => pre1 t (st2 t k)
  have pre4 : ∀ t, Steps p.tables e below (T2.setTop (mkF m 5 #[.val (.ref a1), .val (.int p1)] [(.ref a1), (.int q1)])) t → Steps p.tables e below (s₁.setTop (entryFrame m #[(.ref a1), (.int p1)] 2)) t := by
    intro t k
    refine pre3 t ?_
    refine XS.aloadN X2.here hx rfl (hb hby d5_4) rfl rfl ?_
    show Steps p.tables e below (T2.setTop (mkF m 5 #[.val (.ref a1), .val (.int p1)] [(.ref a1), (.int q1)])) _
    exact k
  obtain ⟨T5, X5, e5, st5⟩ := getF X2 hx hZ hown (host := "") (Or.inl (hw _ (List.mem_of_getElem? (i := 11) rfl))) Via.refl e2 F0 (g := (mkF m 5 #[.val (.ref a1), .val (.int p1)] [(.ref a1), (.int q1)])) rfl rfl (hb hby d5_5)
  have pre6 : ∀ t, Steps p.tables e below (T5.setTop (mkF m 8 #[.val (.ref a1), .val (.int p1)] [(.ref fa), (.int q1)])) t → Steps p.tables e below (s₁.setTop (entryFrame m #[(.ref a1), (.int p1)] 2)) t := fun t k => pre4 t (st5 t k)
  have K8 : Keep h0 h0 [a1, fa] := (Keep.refl h0 [a1, fa])
  obtain ⟨cc7, Ar7, q1_7, Sz7, q3_7, Hs7, G7⟩ := id V0
  have pre9 : ∀ t, Steps p.tables e below (T5.setTop (mkF m 30 #[.val (.ref a1), .val (.int p1)] [(.ref a1)])) t → Steps p.tables e below (s₁.setTop (entryFrame m #[(.ref a1), (.int p1)] 2)) t := by
    intro t k
    refine pre6 t ?_
    refine X5.arraylength hx (by rw [e5]; exact Ar7.1) (State.isArrayOf_alike hZ.alike Ar7.2.1) (g := (mkF m 8 #[.val (.ref a1), .val (.int p1)] [(.ref fa), (.int q1)])) rfl rfl (hb hby d5_8) _ ?_
    rw [len_of Sz7 q3_7]
    show Steps p.tables e below (T5.setTop (mkF m 9 #[.val (.ref a1), .val (.int p1)] [(.int (8 : Int32)), (.int q1)])) _
    refine XS.icmpYes X5.here hx rfl (pc0 := 9) (pc' := 29) rfl (hb hby d5_9) rfl (XT.ii_ne_t hq) (by decide) (by decide) ?_
    show Steps p.tables e below (T5.setTop (mkF m 29 #[.val (.ref a1), .val (.int p1)] [])) _
    refine XS.aloadN X5.here hx rfl (hb hby d5_29) rfl rfl ?_
    show Steps p.tables e below (T5.setTop (mkF m 30 #[.val (.ref a1), .val (.int p1)] [(.ref a1)])) _
    exact k
  obtain ⟨T10, X10, e10, st10⟩ := getF X5 hx hZ hown (host := "") (Or.inl (hw _ (List.mem_of_getElem? (i := 11) rfl))) Via.refl e5 F0 (g := (mkF m 30 #[.val (.ref a1), .val (.int p1)] [(.ref a1)])) rfl rfl (hb hby d5_30)
  have pre11 : ∀ t, Steps p.tables e below (T10.setTop (mkF m 33 #[.val (.ref a1), .val (.int p1)] [(.ref fa)])) t → Steps p.tables e below (s₁.setTop (entryFrame m #[(.ref a1), (.int p1)] 2)) t := fun t k => pre9 t (st10 t k)
  have pre12 : ∀ t, Steps p.tables e below (T10.setTop (mkF m 34 #[.val (.ref a1), .val (.int p1)] [(.ref a1), (.ref fa)])) t → Steps p.tables e below (s₁.setTop (entryFrame m #[(.ref a1), (.int p1)] 2)) t := by
    intro t k
    refine pre11 t ?_
    refine XS.aloadN X10.here hx rfl (hb hby d5_33) rfl rfl ?_
    show Steps p.tables e below (T10.setTop (mkF m 34 #[.val (.ref a1), .val (.int p1)] [(.ref a1), (.ref fa)])) _
    exact k
  obtain ⟨T13, X13, e13, st13⟩ := getF X10 hx hZ hown (host := "") (Or.inl (hw _ (List.mem_of_getElem? (i := 18) rfl))) Via.refl e10 F1 (g := (mkF m 34 #[.val (.ref a1), .val (.int p1)] [(.ref a1), (.ref fa)])) rfl rfl (hb hby d5_34)
  have pre14 : ∀ t, Steps p.tables e below (T13.setTop (mkF m 37 #[.val (.ref a1), .val (.int p1)] [(.int q1), (.ref fa)])) t → Steps p.tables e below (s₁.setTop (entryFrame m #[(.ref a1), (.int p1)] 2)) t := fun t k => pre12 t (st13 t k)
  have pre15 : ∀ t, Steps p.tables e below (T13.setTop (mkF m 38 #[.val (.ref a1), .val (.int p1)] [(.int p1), (.int q1), (.ref fa)])) t → Steps p.tables e below (s₁.setTop (entryFrame m #[(.ref a1), (.int p1)] 2)) t := by
    intro t k
    refine pre14 t ?_
    refine XS.iloadN X13.here hx rfl (hb hby d5_37) rfl ?_
    show Steps p.tables e below (T13.setTop (mkF m 38 #[.val (.ref a1), .val (.int p1)] [(.int p1), (.int q1), (.ref fa)])) _
    exact k
  obtain ⟨cc16, Ar16, q1_16, Sz16, q3_16, Hs16, G16⟩ := id V0
  have hin16 : ¬ (q1 < 0 ∨ cc16.slots.size ≤ (q1 : Int32).toNatClampNeg) := inb_of Sz16 hj
  obtain ⟨T16, h16, X16, e16, W16, st16⟩ := stI X13 hx hZ e13 Ar16 hin16 (g := (mkF m 38 #[.val (.ref a1), .val (.int p1)] [(.int p1), (.int q1), (.ref fa)])) rfl rfl (hb hby d5_38)
  have N16 := Fr.snoc X16 N0 gfa
  have V16 : Arv Z h16 fa kk .int (8 : Int32) (vs.set ix (.int p1)) (.int (0 : Int32)) := Arv.set Ar16 q1_16 Sz16 q3_16 Hs16 G16 rfl W16 ix hji hi
  have pre18 : ∀ t, Steps p.tables e below (T16.setTop (mkF m 39 #[.val (.ref a1), .val (.int p1)] [])) t → Steps p.tables e below (s₁.setTop (entryFrame m #[(.ref a1), (.int p1)] 2)) t := fun t k => pre15 t (st16 t k)
  have F19_0 : Fld Z h16 a1 "com/example/hasselt/hasselt/storage/Numbers" "free" "[I" (.ref fa) := (F0.other W16 (Or.inl nfa))
  have F19_1 : Fld Z h16 a1 "com/example/hasselt/hasselt/storage/Numbers" "freeCount" "I" (.int q1) := (F1.other W16 (Or.inl nfa))
  have F19_2 : Fld Z h16 a1 "com/example/hasselt/hasselt/storage/Numbers" "limit" "I" (.int q2) := (F2.other W16 (Or.inl nfa))
  have E19_0 : Exa Z h16 a1 "com/example/hasselt/hasselt/storage/Numbers" := (E1.wr W16)
  have K19 : Keep h0 h16 [a1, fa] := (K8.wr W16 (Or.inl (List.mem_of_getElem? (i := 1) rfl)))
  have Z19 : n0 ≤ h16.size := (Nat.le_trans Z0 (Nat.le_of_eq W16.size.symm))
  have pre20 : ∀ t, Steps p.tables e below (T16.setTop (mkF m 41 #[.val (.ref a1), .val (.int p1)] [(.ref a1), (.ref a1)])) t → Steps p.tables e below (s₁.setTop (entryFrame m #[(.ref a1), (.int p1)] 2)) t := by
    intro t k
    refine pre18 t ?_
    refine XS.aloadN X16.here hx rfl (hb hby d5_39) rfl rfl ?_
    show Steps p.tables e below (T16.setTop (mkF m 40 #[.val (.ref a1), .val (.int p1)] [(.ref a1)])) _
    refine XS.dup X16.here hx rfl (hb hby d5_40) rfl rfl ?_
    show Steps p.tables e below (T16.setTop (mkF m 41 #[.val (.ref a1), .val (.int p1)] [(.ref a1), (.ref a1)])) _
    exact k
  obtain ⟨T21, X21, e21, st21⟩ := getF X16 hx hZ hown (host := "") (Or.inl (hw _ (List.mem_of_getElem? (i := 18) rfl))) Via.refl e16 F19_1 (g := (mkF m 41 #[.val (.ref a1), .val (.int p1)] [(.ref a1), (.ref a1)])) rfl rfl (hb hby d5_41)
  have pre22 : ∀ t, Steps p.tables e below (T21.setTop (mkF m 44 #[.val (.ref a1), .val (.int p1)] [(.int q1), (.ref a1)])) t → Steps p.tables e below (s₁.setTop (entryFrame m #[(.ref a1), (.int p1)] 2)) t := fun t k => pre20 t (st21 t k)
  have pre24 : ∀ t, Steps p.tables e below (T21.setTop (mkF m 46 #[.val (.ref a1), .val (.int p1)] [(.int (q1 + (1 : Int32))), (.ref a1)])) t → Steps p.tables e below (s₁.setTop (entryFrame m #[(.ref a1), (.int p1)] 2)) t := by
    intro t k
    refine pre22 t ?_
    refine XS.iconst X21.here hx rfl (hb hby d5_44) ?_
    show Steps p.tables e below (T21.setTop (mkF m 45 #[.val (.ref a1), .val (.int p1)] [(.int (1 : Int32)), (.int q1), (.ref a1)])) _
    refine XS.iadd X21.here hx rfl (hb hby d5_45) rfl ?_
    show Steps p.tables e below (T21.setTop (mkF m 46 #[.val (.ref a1), .val (.int p1)] [(.int (q1 + (1 : Int32))), (.ref a1)])) _
    exact k
  obtain ⟨T25, h25, X25, e25, W25, st25⟩ := putF X21 hx hZ hown (host := "") (Or.inl (hw _ (List.mem_of_getElem? (i := 18) rfl))) Via.refl e21 F19_1 E19_0 (Or.inl (hw _ (List.mem_of_getElem? (i := 19) rfl))) (hw _ (List.mem_of_getElem? (i := 2) rfl)) (ty := .int) (by decide) rfl rfl (g := (mkF m 46 #[.val (.ref a1), .val (.int p1)] [(.int (q1 + (1 : Int32))), (.ref a1)])) rfl rfl (hb hby d5_46)
  have N25 := Fr.snoc X25 N16 ga1
  have pre26 : ∀ t, Steps p.tables e below (T25.setTop (mkF m 49 #[.val (.ref a1), .val (.int p1)] [])) t → Steps p.tables e below (s₁.setTop (entryFrame m #[(.ref a1), (.int p1)] 2)) t := fun t k => pre24 t (st25 t k)
  have F27_0 : Fld Z h25 a1 "com/example/hasselt/hasselt/storage/Numbers" "free" "[I" (.ref fa) := (F19_0.other W25 (Or.inr (slot_ne (Or.inl (hw _ (List.mem_of_getElem? (i := 12) rfl))) (Or.inl (hw _ (List.mem_of_getElem? (i := 19) rfl))) (by decide) (t := (.array .int)) (t' := .int) (by decide) (by decide))))
  have F27_1 : Fld Z h25 a1 "com/example/hasselt/hasselt/storage/Numbers" "freeCount" "I" (.int (q1 + (1 : Int32))) := (F19_1.same W25)
  have F27_2 : Fld Z h25 a1 "com/example/hasselt/hasselt/storage/Numbers" "limit" "I" (.int q2) := (F19_2.other W25 (Or.inr (slot_ne (Or.inl (hw _ (List.mem_of_getElem? (i := 21) rfl))) (Or.inl (hw _ (List.mem_of_getElem? (i := 19) rfl))) (by decide) (t := .int) (t' := .int) (by decide) (by decide))))
  have E27_0 : Exa Z h25 a1 "com/example/hasselt/hasselt/storage/Numbers" := (E19_0.wr W25)
  have V27_0 : Arv Z h25 fa kk .int (8 : Int32) (vs.set ix (.int p1)) (.int (0 : Int32)) := (V16.other W25 nfa.symm)
  have K27 : Keep h0 h25 [a1, fa] := (K19.wr W25 (Or.inl (List.mem_of_getElem? (i := 0) rfl)))
  have Z27 : n0 ≤ h25.size := (Nat.le_trans Z19 (Nat.le_of_eq W25.size.symm))
  obtain ⟨fs, hr, hrun, hended, hW, hsame⟩ := X25.leave (v := none) (fun _ => rfl)
  refine ⟨_, _, pre26 _ ?_, hrun, hended, _, _, rfl, ?_, ⟨_, rfl⟩, hW, hsame.mono (by decide) (by decide)⟩
  · exact X25.returnOut hx Bd.returns (hb hby d5_49) hr
  · show Q5 Z a1 p1 fa q1 q2 kk vs ix h0 n0 _ T25.heap _
    rw [e25]
    exact ⟨rfl, N25, K27, F27_0, F27_1, F27_2, V27_0⟩
theorem pn_4 : plainName "com/example/hasselt/hasselt/storage/Numbers" = true := by first | (simp [plainName, overriddenIn]; done) | decide +kernel
theorem d4_0 : decode prog_131_method_4_code 0 = .ok (.aload_n 0, 1) := by decide +kernel
theorem d4_1 : decode prog_131_method_4_code 1 = .ok (.getfield 17, 3) := by decide +kernel
theorem d4_4 : decode prog_131_method_4_code 4 = .ok (.ireturn, 1) := by decide +kernel
theorem ef_4 (m : MethodId) (a1 : Addr) : entryFrame m #[(.ref a1)] 1 = mkF m 0 #[.val (.ref a1)] [] := by first | (simp [entryFrame, mkF, argsToLocals, Value.category]; done) | rfl
def Q4 (Z : State) (a1 : Addr) (fa : Addr) (q1 : Int32) (q2 : Int32) (h0 : Heap) (n0 : Nat) (v : Option Value) (h : Heap) (L : List Loc) : Prop := v = some (.int q2) ∧ Fr n0 L ∧ h = h0
set_option maxRecDepth 65536 in
set_option maxHeartbeats 40000000 in
theorem rm4 (l : Launch) (Z : State) (a0 : Array Value) (hw : ∀ d ∈ tables_1, d.before a0 Z = true) (ws : List Jvm.Cond) (a1 : Addr) (fa : Addr) (q1 : Int32) (q2 : Int32) (h0 : Heap) (n0 : Nat) (Z0 : n0 ≤ h0.size) (F0 : Fld Z h0 a1 "com/example/hasselt/hasselt/storage/Numbers" "free" "[I" (.ref fa)) (F1 : Fld Z h0 a1 "com/example/hasselt/hasselt/storage/Numbers" "freeCount" "I" (.int q1)) (F2 : Fld Z h0 a1 "com/example/hasselt/hasselt/storage/Numbers" "limit" "I" (.int q2)) :
    MetFree l (⟨"com/example/hasselt/hasselt/storage/Numbers", "limit", "()I"⟩ : MethodName) (head1 (Jvm.Cond.code (⟨"com/example/hasselt/hasselt/storage/Numbers", "limit", "()I"⟩ : MethodName) prog_131_method_4_code 1 (some .int) :: ws) ({ frames := 0, cells := 0, slots := 0, locals := 0 } : Room)) (fun a U => a = #[(.ref a1)] ∧ Z.Warmed39 U.vm ∧ U.heap = h0) (fun _ _ _ _ _ => True) (fun _ U o U' => ∃ v L, o = .returned v ∧ Q4 Z a1 fa q1 q2 h0 n0 v U'.heap L ∧ FrameEnd U o U' L ({ frames := 0, cells := 0, slots := 0, locals := 0 } : Room).cells ({ frames := 0, cells := 0, slots := 0, locals := 0 } : Room).slots) := by
  refine MetFree.of_bodySF (plainFor_of_name pn_4) hisR ?_
  intro p e s m args below meth c s₁ Bd hml0 hP hK
  obtain ⟨rfl, hZ, hh⟩ := hP
  have hx := Bd.exec
  have hby := Bd.bytes
  have hml : c.maxLocals = 1 := hml0
  have hown : s.vm.findClass "com/example/hasselt/hasselt/storage/Numbers" = some m.cls := findClass_of_methodNamed Bd.named
  have hnm := (name_of_methodNamed Bd.named Bd.method).1
  have X0 : Stand p l e ({ frames := 0, cells := 0, slots := 0, locals := 0 } : Room) s m #[(.ref a1)] below meth c s₁ [] 0 0 := Stand.of_body Bd
  have e0 : s₁.heap = h0 := by rw [← hh, Bd.state]; rfl
  have N0 := Fr.nil n0
  have pre0 : ∀ t, Steps p.tables e below (s₁.setTop (mkF m 0 #[.val (.ref a1)] [])) t → Steps p.tables e below (s₁.setTop (entryFrame m #[(.ref a1)] 1)) t := fun t k => castTop (ef_4 m a1) k
  have pre1 : ∀ t, Steps p.tables e below (s₁.setTop (mkF m 1 #[.val (.ref a1)] [(.ref a1)])) t → Steps p.tables e below (s₁.setTop (entryFrame m #[(.ref a1)] 1)) t := by
    intro t k
    refine pre0 t ?_
    refine XS.aloadN X0.here hx rfl (hb hby d4_0) rfl rfl ?_
    show Steps p.tables e below (s₁.setTop (mkF m 1 #[.val (.ref a1)] [(.ref a1)])) _
    exact k
  obtain ⟨T2, X2, e2, st2⟩ := getF X0 hx hZ hown (host := "") (Or.inl (hw _ (List.mem_of_getElem? (i := 20) rfl))) Via.refl e0 F2 (g := (mkF m 1 #[.val (.ref a1)] [(.ref a1)])) rfl rfl (hb hby d4_1)
  have pre3 : ∀ t, Steps p.tables e below (T2.setTop (mkF m 4 #[.val (.ref a1)] [(.int q2)])) t → Steps p.tables e below (s₁.setTop (entryFrame m #[(.ref a1)] 1)) t := fun t k => pre1 t (st2 t k)
  obtain ⟨fs, hr, hrun, hended, hW, hsame⟩ := X2.leave (v := some (.int q2)) (fun h => by rw [Bd.returns] at h; cases h)
  refine ⟨_, _, pre3 _ ?_, hrun, hended, _, _, rfl, ?_, ⟨_, rfl⟩, hW, hsame.mono (by decide) (by decide)⟩
  · exact retOut X2 hx Bd.returns rfl (Or.inl ⟨rfl, by simp, _, rfl⟩) (hb hby d4_4) hr
  · show Q4 Z a1 fa q1 q2 h0 n0 _ T2.heap _
    rw [e2]
    exact ⟨rfl, N0, rfl⟩
theorem pd_ini : parseMethodDescriptor "()V" = some ⟨[], none⟩ := by decide +kernel
theorem pd_i : parseMethodDescriptor "()I" = some ⟨[], some .int⟩ := by decide +kernel
theorem pd_give : parseMethodDescriptor "(I)V" = some ⟨[.int], none⟩ := by decide +kernel
theorem pn_law : plainName "com/example/hasselt/hasselt/storage/NumbersTakePinLaw" = true := by first | (simp [plainName, overriddenIn]; done) | decide +kernel
theorem ef_law (m : MethodId) (g0 : Int32) (x0 : Int32) (d0 : Int32) : entryFrame m #[(.int g0), (.int x0), (.int d0)] maxLocals = mkF m 0 #[.val (.int g0), .val (.int x0), .val (.int d0), .unset, .unset, .unset, .unset, .unset, .unset, .unset, .unset, .unset, .unset, .unset, .unset, .unset, .unset] [] := by first | (simp [entryFrame, mkF, argsToLocals, Value.category, maxLocals]; done) | rfl
def Qlaw (Z : State) (g0 : Int32) (x0 : Int32) (d0 : Int32) (h0 : Heap) (n0 : Nat) (v : Option Value) (h : Heap) (L : List Loc) : Prop := v = some (.int (1 : Int32)) ∧ Fr n0 L
set_option maxRecDepth 65536 in
set_option maxHeartbeats 40000000 in
theorem rmlaw (l : Launch) (Z : State) (a0 : Array Value) (hw : ∀ d ∈ tables_1, d.before a0 Z = true) (ws : List Jvm.Cond) (g0 : Int32) (x0 : Int32) (d0 : Int32) (h0 : Heap) (n0 : Nat) (Z0 : n0 ≤ h0.size) :
    MetFree l x (head1 (Jvm.Cond.code x code maxLocals ret :: ws) room_1) (fun a U => a = #[(.int g0), (.int x0), (.int d0)] ∧ Z.Warmed39 U.vm ∧ U.heap = h0) (fun _ _ _ _ _ => True) (fun _ U o U' => ∃ v L, o = .returned v ∧ Qlaw Z g0 x0 d0 h0 n0 v U'.heap L ∧ FrameEnd U o U' L room_1.cells room_1.slots) := by
  refine MetFree.of_bodySF (plainFor_of_name pn_law) hisR ?_
  intro p e s m args below meth c s₁ Bd hml0 hP hK
  obtain ⟨rfl, hZ, hh⟩ := hP
  have hx := Bd.exec
  have hby := Bd.bytes
  have hml : c.maxLocals = 17 := hml0
  have hown : s.vm.findClass "com/example/hasselt/hasselt/storage/NumbersTakePinLaw" = some m.cls := findClass_of_methodNamed Bd.named
  have hnm := (name_of_methodNamed Bd.named Bd.method).1
  have X0 : Stand p l e room_1 s m #[(.int g0), (.int x0), (.int d0)] below meth c s₁ [] 0 0 := Stand.of_body Bd
  have e0 : s₁.heap = h0 := by rw [← hh, Bd.state]; rfl
  have N0 := Fr.nil n0
  have pre0 : ∀ t, Steps p.tables e below (s₁.setTop (mkF m 0 #[.val (.int g0), .val (.int x0), .val (.int d0), .unset, .unset, .unset, .unset, .unset, .unset, .unset, .unset, .unset, .unset, .unset, .unset, .unset, .unset] [])) t → Steps p.tables e below (s₁.setTop (entryFrame m #[(.int g0), (.int x0), (.int d0)] maxLocals)) t := fun t k => castTop (ef_law m g0 x0 d0) k
  have pre1 : ∀ t, Steps p.tables e below (s₁.setTop (mkF m 7 #[.val (.int g0), .val (.int x0), .val (.int d0), .val (.int ((g0 &&& (2147483647 : Int32)) % (3 : Int32))), .unset, .unset, .unset, .unset, .unset, .unset, .unset, .unset, .unset, .unset, .unset, .unset, .unset] [])) t → Steps p.tables e below (s₁.setTop (entryFrame m #[(.int g0), (.int x0), (.int d0)] maxLocals)) t := by
    intro t k
    refine pre0 t ?_
    refine XS.iloadN X0.here hx rfl (hb hby at_0) rfl ?_
    show Steps p.tables e below (s₁.setTop (mkF m 1 #[.val (.int g0), .val (.int x0), .val (.int d0), .unset, .unset, .unset, .unset, .unset, .unset, .unset, .unset, .unset, .unset, .unset, .unset, .unset, .unset] [(.int g0)])) _
    refine Stand.ldcI X0 hx hown (mvT hZ (hw _ (List.mem_of_getElem? (i := 0) rfl))) rfl (hb hby at_1) ?_
    show Steps p.tables e below (s₁.setTop (mkF m 3 #[.val (.int g0), .val (.int x0), .val (.int d0), .unset, .unset, .unset, .unset, .unset, .unset, .unset, .unset, .unset, .unset, .unset, .unset, .unset, .unset] [(.int (2147483647 : Int32)), (.int g0)])) _
    refine XS.iand X0.here hx rfl (hb hby at_3) rfl ?_
    show Steps p.tables e below (s₁.setTop (mkF m 4 #[.val (.int g0), .val (.int x0), .val (.int d0), .unset, .unset, .unset, .unset, .unset, .unset, .unset, .unset, .unset, .unset, .unset, .unset, .unset, .unset] [(.int (g0 &&& (2147483647 : Int32)))])) _
    refine XS.iconst X0.here hx rfl (hb hby at_4) ?_
    show Steps p.tables e below (s₁.setTop (mkF m 5 #[.val (.int g0), .val (.int x0), .val (.int d0), .unset, .unset, .unset, .unset, .unset, .unset, .unset, .unset, .unset, .unset, .unset, .unset, .unset, .unset] [(.int (3 : Int32)), (.int (g0 &&& (2147483647 : Int32)))])) _
    refine iremM X0 hx rfl (hb hby at_5) rfl (by decide) ?_
    show Steps p.tables e below (s₁.setTop (mkF m 6 #[.val (.int g0), .val (.int x0), .val (.int d0), .unset, .unset, .unset, .unset, .unset, .unset, .unset, .unset, .unset, .unset, .unset, .unset, .unset, .unset] [(.int ((g0 &&& (2147483647 : Int32)) % (3 : Int32)))])) _
    refine XS.istoreN X0.here hx rfl (hb hby at_6) rfl (l' := #[.val (.int g0), .val (.int x0), .val (.int d0), .val (.int ((g0 &&& (2147483647 : Int32)) % (3 : Int32))), .unset, .unset, .unset, .unset, .unset, .unset, .unset, .unset, .unset, .unset, .unset, .unset, .unset]) rfl ?_
    show Steps p.tables e below (s₁.setTop (mkF m 7 #[.val (.int g0), .val (.int x0), .val (.int d0), .val (.int ((g0 &&& (2147483647 : Int32)) % (3 : Int32))), .unset, .unset, .unset, .unset, .unset, .unset, .unset, .unset, .unset, .unset, .unset, .unset, .unset] [])) _
    exact k
  obtain ⟨gg, hn_gg, pre2⟩ : ∃ gg : Int32, gg = ((g0 &&& (2147483647 : Int32)) % (3 : Int32)) ∧ ∀ t, Steps p.tables e below (s₁.setTop (mkF m 7 #[.val (.int g0), .val (.int x0), .val (.int d0), .val (.int gg), .unset, .unset, .unset, .unset, .unset, .unset, .unset, .unset, .unset, .unset, .unset, .unset, .unset] [])) t → Steps p.tables e below (s₁.setTop (entryFrame m #[(.int g0), (.int x0), (.int d0)] maxLocals)) t := ⟨_, rfl, pre1⟩
  have pre3 : ∀ t, Steps p.tables e below (s₁.setTop (mkF m 15 #[.val (.int g0), .val (.int x0), .val (.int d0), .val (.int gg), .val (.int ((x0 &&& (2147483647 : Int32)) % (3 : Int32))), .unset, .unset, .unset, .unset, .unset, .unset, .unset, .unset, .unset, .unset, .unset, .unset] [])) t → Steps p.tables e below (s₁.setTop (entryFrame m #[(.int g0), (.int x0), (.int d0)] maxLocals)) t := by
    intro t k
    refine pre2 t ?_
    refine XS.iloadN X0.here hx rfl (hb hby at_7) rfl ?_
    show Steps p.tables e below (s₁.setTop (mkF m 8 #[.val (.int g0), .val (.int x0), .val (.int d0), .val (.int gg), .unset, .unset, .unset, .unset, .unset, .unset, .unset, .unset, .unset, .unset, .unset, .unset, .unset] [(.int x0)])) _
    refine Stand.ldcI X0 hx hown (mvT hZ (hw _ (List.mem_of_getElem? (i := 0) rfl))) rfl (hb hby at_8) ?_
    show Steps p.tables e below (s₁.setTop (mkF m 10 #[.val (.int g0), .val (.int x0), .val (.int d0), .val (.int gg), .unset, .unset, .unset, .unset, .unset, .unset, .unset, .unset, .unset, .unset, .unset, .unset, .unset] [(.int (2147483647 : Int32)), (.int x0)])) _
    refine XS.iand X0.here hx rfl (hb hby at_10) rfl ?_
    show Steps p.tables e below (s₁.setTop (mkF m 11 #[.val (.int g0), .val (.int x0), .val (.int d0), .val (.int gg), .unset, .unset, .unset, .unset, .unset, .unset, .unset, .unset, .unset, .unset, .unset, .unset, .unset] [(.int (x0 &&& (2147483647 : Int32)))])) _
    refine XS.iconst X0.here hx rfl (hb hby at_11) ?_
    show Steps p.tables e below (s₁.setTop (mkF m 12 #[.val (.int g0), .val (.int x0), .val (.int d0), .val (.int gg), .unset, .unset, .unset, .unset, .unset, .unset, .unset, .unset, .unset, .unset, .unset, .unset, .unset] [(.int (3 : Int32)), (.int (x0 &&& (2147483647 : Int32)))])) _
    refine iremM X0 hx rfl (hb hby at_12) rfl (by decide) ?_
    show Steps p.tables e below (s₁.setTop (mkF m 13 #[.val (.int g0), .val (.int x0), .val (.int d0), .val (.int gg), .unset, .unset, .unset, .unset, .unset, .unset, .unset, .unset, .unset, .unset, .unset, .unset, .unset] [(.int ((x0 &&& (2147483647 : Int32)) % (3 : Int32)))])) _
    refine XS.istore X0.here hx rfl (hb hby at_13) rfl (l' := #[.val (.int g0), .val (.int x0), .val (.int d0), .val (.int gg), .val (.int ((x0 &&& (2147483647 : Int32)) % (3 : Int32))), .unset, .unset, .unset, .unset, .unset, .unset, .unset, .unset, .unset, .unset, .unset, .unset]) rfl ?_
    show Steps p.tables e below (s₁.setTop (mkF m 15 #[.val (.int g0), .val (.int x0), .val (.int d0), .val (.int gg), .val (.int ((x0 &&& (2147483647 : Int32)) % (3 : Int32))), .unset, .unset, .unset, .unset, .unset, .unset, .unset, .unset, .unset, .unset, .unset, .unset] [])) _
    exact k
  obtain ⟨xx, hn_xx, pre4⟩ : ∃ xx : Int32, xx = ((x0 &&& (2147483647 : Int32)) % (3 : Int32)) ∧ ∀ t, Steps p.tables e below (s₁.setTop (mkF m 15 #[.val (.int g0), .val (.int x0), .val (.int d0), .val (.int gg), .val (.int xx), .unset, .unset, .unset, .unset, .unset, .unset, .unset, .unset, .unset, .unset, .unset, .unset] [])) t → Steps p.tables e below (s₁.setTop (entryFrame m #[(.int g0), (.int x0), (.int d0)] maxLocals)) t := ⟨_, rfl, pre3⟩
  have pre5 : ∀ t, Steps p.tables e below (s₁.setTop (mkF m 27 #[.val (.int g0), .val (.int x0), .val (.int d0), .val (.int gg), .val (.int xx), .val (.int (((xx + (1 : Int32)) + (d0 &&& (1 : Int32))) % (3 : Int32))), .unset, .unset, .unset, .unset, .unset, .unset, .unset, .unset, .unset, .unset, .unset] [])) t → Steps p.tables e below (s₁.setTop (entryFrame m #[(.int g0), (.int x0), (.int d0)] maxLocals)) t := by
    intro t k
    refine pre4 t ?_
    refine XS.iload X0.here hx rfl (hb hby at_15) rfl ?_
    show Steps p.tables e below (s₁.setTop (mkF m 17 #[.val (.int g0), .val (.int x0), .val (.int d0), .val (.int gg), .val (.int xx), .unset, .unset, .unset, .unset, .unset, .unset, .unset, .unset, .unset, .unset, .unset, .unset] [(.int xx)])) _
    refine XS.iconst X0.here hx rfl (hb hby at_17) ?_
    show Steps p.tables e below (s₁.setTop (mkF m 18 #[.val (.int g0), .val (.int x0), .val (.int d0), .val (.int gg), .val (.int xx), .unset, .unset, .unset, .unset, .unset, .unset, .unset, .unset, .unset, .unset, .unset, .unset] [(.int (1 : Int32)), (.int xx)])) _
    refine XS.iadd X0.here hx rfl (hb hby at_18) rfl ?_
    show Steps p.tables e below (s₁.setTop (mkF m 19 #[.val (.int g0), .val (.int x0), .val (.int d0), .val (.int gg), .val (.int xx), .unset, .unset, .unset, .unset, .unset, .unset, .unset, .unset, .unset, .unset, .unset, .unset] [(.int (xx + (1 : Int32)))])) _
    refine XS.iloadN X0.here hx rfl (hb hby at_19) rfl ?_
    show Steps p.tables e below (s₁.setTop (mkF m 20 #[.val (.int g0), .val (.int x0), .val (.int d0), .val (.int gg), .val (.int xx), .unset, .unset, .unset, .unset, .unset, .unset, .unset, .unset, .unset, .unset, .unset, .unset] [(.int d0), (.int (xx + (1 : Int32)))])) _
    refine XS.iconst X0.here hx rfl (hb hby at_20) ?_
    show Steps p.tables e below (s₁.setTop (mkF m 21 #[.val (.int g0), .val (.int x0), .val (.int d0), .val (.int gg), .val (.int xx), .unset, .unset, .unset, .unset, .unset, .unset, .unset, .unset, .unset, .unset, .unset, .unset] [(.int (1 : Int32)), (.int d0), (.int (xx + (1 : Int32)))])) _
    refine XS.iand X0.here hx rfl (hb hby at_21) rfl ?_
    show Steps p.tables e below (s₁.setTop (mkF m 22 #[.val (.int g0), .val (.int x0), .val (.int d0), .val (.int gg), .val (.int xx), .unset, .unset, .unset, .unset, .unset, .unset, .unset, .unset, .unset, .unset, .unset, .unset] [(.int (d0 &&& (1 : Int32))), (.int (xx + (1 : Int32)))])) _
    refine XS.iadd X0.here hx rfl (hb hby at_22) rfl ?_
    show Steps p.tables e below (s₁.setTop (mkF m 23 #[.val (.int g0), .val (.int x0), .val (.int d0), .val (.int gg), .val (.int xx), .unset, .unset, .unset, .unset, .unset, .unset, .unset, .unset, .unset, .unset, .unset, .unset] [(.int ((xx + (1 : Int32)) + (d0 &&& (1 : Int32))))])) _
    refine XS.iconst X0.here hx rfl (hb hby at_23) ?_
    show Steps p.tables e below (s₁.setTop (mkF m 24 #[.val (.int g0), .val (.int x0), .val (.int d0), .val (.int gg), .val (.int xx), .unset, .unset, .unset, .unset, .unset, .unset, .unset, .unset, .unset, .unset, .unset, .unset] [(.int (3 : Int32)), (.int ((xx + (1 : Int32)) + (d0 &&& (1 : Int32))))])) _
    refine iremM X0 hx rfl (hb hby at_24) rfl (by decide) ?_
    show Steps p.tables e below (s₁.setTop (mkF m 25 #[.val (.int g0), .val (.int x0), .val (.int d0), .val (.int gg), .val (.int xx), .unset, .unset, .unset, .unset, .unset, .unset, .unset, .unset, .unset, .unset, .unset, .unset] [(.int (((xx + (1 : Int32)) + (d0 &&& (1 : Int32))) % (3 : Int32)))])) _
    refine XS.istore X0.here hx rfl (hb hby at_25) rfl (l' := #[.val (.int g0), .val (.int x0), .val (.int d0), .val (.int gg), .val (.int xx), .val (.int (((xx + (1 : Int32)) + (d0 &&& (1 : Int32))) % (3 : Int32))), .unset, .unset, .unset, .unset, .unset, .unset, .unset, .unset, .unset, .unset, .unset]) rfl ?_
    show Steps p.tables e below (s₁.setTop (mkF m 27 #[.val (.int g0), .val (.int x0), .val (.int d0), .val (.int gg), .val (.int xx), .val (.int (((xx + (1 : Int32)) + (d0 &&& (1 : Int32))) % (3 : Int32))), .unset, .unset, .unset, .unset, .unset, .unset, .unset, .unset, .unset, .unset, .unset] [])) _
    exact k
  obtain ⟨yy, hn_yy, pre6⟩ : ∃ yy : Int32, yy = (((xx + (1 : Int32)) + (d0 &&& (1 : Int32))) % (3 : Int32)) ∧ ∀ t, Steps p.tables e below (s₁.setTop (mkF m 27 #[.val (.int g0), .val (.int x0), .val (.int d0), .val (.int gg), .val (.int xx), .val (.int yy), .unset, .unset, .unset, .unset, .unset, .unset, .unset, .unset, .unset, .unset, .unset] [])) t → Steps p.tables e below (s₁.setTop (entryFrame m #[(.int g0), (.int x0), (.int d0)] maxLocals)) t := ⟨_, rfl, pre5⟩
  obtain ⟨T8, h8, X8, e8, E8, A8, D8, -, st8⟩ := newO X0 hx hZ hown (hw _ (List.mem_of_getElem? (i := 1) rfl)) (hw _ (List.mem_of_getElem? (i := 2) rfl)) (hw _ (List.mem_of_getElem? (i := 3) rfl)) e0 (g := (mkF m 27 #[.val (.int g0), .val (.int x0), .val (.int d0), .val (.int gg), .val (.int xx), .val (.int yy), .unset, .unset, .unset, .unset, .unset, .unset, .unset, .unset, .unset, .unset, .unset] [])) rfl (hb hby at_27) (by decide) (by decide)
  obtain ⟨a1, gz8⟩ : ∃ z, z = h0.size := ⟨_, rfl⟩
  rw [← gz8] at A8 D8 st8
  have g_a1 : n0 ≤ a1 := Nat.le_trans Z0 (Nat.le_of_eq gz8.symm)
  have F_free_a1 : Fld Z h8 a1 "com/example/hasselt/hasselt/storage/Numbers" "free" "[I" .null := D8 (Or.inl (hw _ (List.mem_of_getElem? (i := 12) rfl))) (ty := (.array .int)) (by decide)
  have F_freeCount_a1 : Fld Z h8 a1 "com/example/hasselt/hasselt/storage/Numbers" "freeCount" "I" (.int (0 : Int32)) := D8 (Or.inl (hw _ (List.mem_of_getElem? (i := 19) rfl))) (ty := .int) (by decide)
  have F_limit_a1 : Fld Z h8 a1 "com/example/hasselt/hasselt/storage/Numbers" "limit" "I" (.int (0 : Int32)) := D8 (Or.inl (hw _ (List.mem_of_getElem? (i := 21) rfl))) (ty := .int) (by decide)
  have pre9 : ∀ t, Steps p.tables e below (T8.setTop (mkF m 30 #[.val (.int g0), .val (.int x0), .val (.int d0), .val (.int gg), .val (.int xx), .val (.int yy), .unset, .unset, .unset, .unset, .unset, .unset, .unset, .unset, .unset, .unset, .unset] [(.ref a1)])) t → Steps p.tables e below (s₁.setTop (entryFrame m #[(.int g0), (.int x0), (.int d0)] maxLocals)) t := fun t k => pre6 t (st8 t k)
  have Z10 : n0 ≤ h8.size := (Nat.le_trans Z0 E8.1)
  have pre12 : ∀ t, Steps p.tables e below (T8.setTop (mkF m 31 #[.val (.int g0), .val (.int x0), .val (.int d0), .val (.int gg), .val (.int xx), .val (.int yy), .unset, .unset, .unset, .unset, .unset, .unset, .unset, .unset, .unset, .unset, .unset] [(.ref a1), (.ref a1)])) t → Steps p.tables e below (s₁.setTop (entryFrame m #[(.int g0), (.int x0), (.int d0)] maxLocals)) t := by
    intro t k
    refine pre9 t ?_
    refine XS.dup X8.here hx rfl (hb hby at_30) rfl rfl ?_
    show Steps p.tables e below (T8.setTop (mkF m 31 #[.val (.int g0), .val (.int x0), .val (.int d0), .val (.int gg), .val (.int xx), .val (.int yy), .unset, .unset, .unset, .unset, .unset, .unset, .unset, .unset, .unset, .unset, .unset] [(.ref a1), (.ref a1)])) _
    exact k
  obtain ⟨_, _, ⟨T14, L14, k14, n14⟩, -, X14, ⟨Lc14, hQ14, l14, y14, z14⟩, st14⟩ := X8.specialBack hx (y := (⟨"com/example/hasselt/hasselt/storage/Numbers", "<init>", "()V"⟩ : MethodName)) rfl hown (mvT hZ (hw _ (List.mem_of_getElem? (i := 4) rfl))) (mvT hZ (hw _ (List.mem_of_getElem? (i := 5) rfl))) (mvT hZ (hw _ (List.mem_of_getElem? (i := 6) rfl))) (by decide) (backOf (W := 1) (rm1 l Z a0 hw [] a1 h8 n0 Z10 A8 g_a1 F_free_a1 F_freeCount_a1 F_limit_a1) hZ (hw _ (List.mem_of_getElem? (i := 6) rfl)) (hw _ (List.mem_of_getElem? (i := 3) rfl)) (by decide) (by decide)) (g := (mkF m 31 #[.val (.int g0), .val (.int x0), .val (.int d0), .val (.int gg), .val (.int xx), .val (.int yy), .unset, .unset, .unset, .unset, .unset, .unset, .unset, .unset, .unset, .unset, .unset] [(.ref a1), (.ref a1)])) rfl (by rw [hml]; rfl) (Steps.refl _) (a := a1) (argsL := []) (rest := [(.ref a1)]) (lenOf pd_ini rfl) rfl (by show 2 * 0 + _ ≤ _; exact Nat.le_of_eq rfl) (hb hby at_31) (fun _ _ => ⟨rfl, e8, (by decide : 1 + 1 ≤ _), (by decide : 3 + 8 ≤ _)⟩)
  dsimp only [Pt.U, Pt.locs, Pt.cells, Pt.slots] at X14 l14 y14 z14 st14 hQ14
  subst l14 y14 z14
  obtain ⟨fa, kk, rfl, Nq14, Kq14, gq14, Fa14, Fb14, Fc14, Va14⟩ := hQ14
  have N14 := Fr.app N0 Nq14
  have pre15 : ∀ t, Steps p.tables e below (T14.setTop (mkF m 34 #[.val (.int g0), .val (.int x0), .val (.int d0), .val (.int gg), .val (.int xx), .val (.int yy), .unset, .unset, .unset, .unset, .unset, .unset, .unset, .unset, .unset, .unset, .unset] [(.ref a1)])) t → Steps p.tables e below (s₁.setTop (entryFrame m #[(.int g0), (.int x0), (.int d0)] maxLocals)) t := fun t k => pre12 t (st14.trans k)
  obtain ⟨h14, e14⟩ : ∃ z, T14.heap = z := ⟨_, rfl⟩
  have g_fa : n0 ≤ fa := Nat.le_trans Z10 gq14
  have ne_a1_fa : a1 ≠ fa := Nat.ne_of_lt (Nat.lt_of_lt_of_le F_free_a1.lt gq14)
  rw [e14] at Kq14 Fa14 Fb14 Fc14 Va14
  have E16_0 : Exa Z h14 a1 "com/example/hasselt/hasselt/storage/Numbers" := (A8.keep Kq14)
  have Z16 : n0 ≤ h14.size := (Nat.le_trans Z10 Kq14.1)
  have pre18 : ∀ t, Steps p.tables e below (T14.setTop (mkF m 38 #[.val (.int g0), .val (.int x0), .val (.int d0), .val (.int gg), .val (.int xx), .val (.int yy), .val (.ref a1), .unset, .unset, .unset, .unset, .unset, .unset, .unset, .unset, .unset, .unset] [(.ref a1)])) t → Steps p.tables e below (s₁.setTop (entryFrame m #[(.int g0), (.int x0), (.int d0)] maxLocals)) t := by
    intro t k
    refine pre15 t ?_
    refine XS.astore X14.here hx rfl (hb hby at_34) rfl rfl (l' := #[.val (.int g0), .val (.int x0), .val (.int d0), .val (.int gg), .val (.int xx), .val (.int yy), .val (.ref a1), .unset, .unset, .unset, .unset, .unset, .unset, .unset, .unset, .unset, .unset]) rfl ?_
    show Steps p.tables e below (T14.setTop (mkF m 36 #[.val (.int g0), .val (.int x0), .val (.int d0), .val (.int gg), .val (.int xx), .val (.int yy), .val (.ref a1), .unset, .unset, .unset, .unset, .unset, .unset, .unset, .unset, .unset, .unset] [])) _
    refine XS.aload X14.here hx rfl (hb hby at_36) rfl rfl ?_
    show Steps p.tables e below (T14.setTop (mkF m 38 #[.val (.int g0), .val (.int x0), .val (.int d0), .val (.int gg), .val (.int xx), .val (.int yy), .val (.ref a1), .unset, .unset, .unset, .unset, .unset, .unset, .unset, .unset, .unset, .unset] [(.ref a1)])) _
    exact k
  obtain ⟨cq20, kq20, q20a, q20b, q20c⟩ := isOf hZ e14 E16_0
  obtain ⟨_, _, ⟨T20, L20, k20, n20⟩, -, X20, ⟨Lc20, hQ20, l20, y20, z20⟩, st20⟩ := X14.virtualBack hx (y := (⟨"com/example/hasselt/hasselt/storage/Numbers", "take", "()I"⟩ : MethodName)) (z := (⟨"com/example/hasselt/hasselt/storage/Numbers", "take", "()I"⟩ : MethodName)) hown (mvT hZ (hw _ (List.mem_of_getElem? (i := 13) rfl))) (mvT hZ (hw _ (List.mem_of_getElem? (i := 14) rfl))) (notFace_of_selects (args := #[]) (mvT hZ (hw _ (List.mem_of_getElem? (i := 16) rfl)))) (mvT hZ (hw _ (List.mem_of_getElem? (i := 16) rfl))) (mvT hZ (hw _ (List.mem_of_getElem? (i := 15) rfl))) (by decide) (backOf (W := 0) (rm3a l Z a0 hw [] a1 fa (0 : Int32) (0 : Int32) h14 n0 Z16 E16_0 g_a1 Fa14 Fb14 Fc14 (by decide)) hZ (hw _ (List.mem_of_getElem? (i := 17) rfl)) (hw _ (List.mem_of_getElem? (i := 3) rfl)) (by decide) (by decide)) q20a q20c (g := (mkF m 38 #[.val (.int g0), .val (.int x0), .val (.int d0), .val (.int gg), .val (.int xx), .val (.int yy), .val (.ref a1), .unset, .unset, .unset, .unset, .unset, .unset, .unset, .unset, .unset, .unset] [(.ref a1)])) rfl (by rw [hml]; rfl) (Steps.refl _) (argsL := []) (rest := []) (lenOf pd_i rfl) rfl (by show 2 * 0 + _ ≤ _; exact Nat.le_of_eq rfl) (hb hby at_38) (fun _ _ => ⟨rfl, e14, (by decide : 2 + 0 ≤ _), (by decide : 11 + 0 ≤ _)⟩)
  dsimp only [Pt.U, Pt.locs, Pt.cells, Pt.slots] at X20 l20 y20 z20 st20 hQ20
  subst l20 y20 z20
  obtain ⟨rfl, Nq20, Kq20, Fa20, Fb20, Fc20⟩ := hQ20
  have N20 := Fr.app N14 Nq20
  have pre21 : ∀ t, Steps p.tables e below (T20.setTop (mkF m 41 #[.val (.int g0), .val (.int x0), .val (.int d0), .val (.int gg), .val (.int xx), .val (.int yy), .val (.ref a1), .unset, .unset, .unset, .unset, .unset, .unset, .unset, .unset, .unset, .unset] [(.int (0 : Int32))])) t → Steps p.tables e below (s₁.setTop (entryFrame m #[(.int g0), (.int x0), (.int d0)] maxLocals)) t := fun t k => pre18 t (st20.trans k)
  obtain ⟨h20, e20⟩ : ∃ z, T20.heap = z := ⟨_, rfl⟩
  rw [e20] at Kq20 Fa20 Fb20 Fc20
  have E22_0 : Exa Z h20 a1 "com/example/hasselt/hasselt/storage/Numbers" := (E16_0.keep Kq20)
  have V22_0 : Arv Z h20 fa kk .int (8 : Int32) [(.int (0 : Int32)), (.int (0 : Int32)), (.int (0 : Int32)), (.int (0 : Int32)), (.int (0 : Int32)), (.int (0 : Int32)), (.int (0 : Int32)), (.int (0 : Int32))] (.int (0 : Int32)) := (Va14.keep Kq20 (ninS ne_a1_fa.symm nin0))
  have Z22 : n0 ≤ h20.size := (Nat.le_trans Z16 Kq20.1)
  have pre24 : ∀ t, Steps p.tables e below (T20.setTop (mkF m 45 #[.val (.int g0), .val (.int x0), .val (.int d0), .val (.int gg), .val (.int xx), .val (.int yy), .val (.ref a1), .val (.int (0 : Int32)), .unset, .unset, .unset, .unset, .unset, .unset, .unset, .unset, .unset] [(.ref a1)])) t → Steps p.tables e below (s₁.setTop (entryFrame m #[(.int g0), (.int x0), (.int d0)] maxLocals)) t := by
    intro t k
    refine pre21 t ?_
    refine XS.istore X20.here hx rfl (hb hby at_41) rfl (l' := #[.val (.int g0), .val (.int x0), .val (.int d0), .val (.int gg), .val (.int xx), .val (.int yy), .val (.ref a1), .val (.int (0 : Int32)), .unset, .unset, .unset, .unset, .unset, .unset, .unset, .unset, .unset]) rfl ?_
    show Steps p.tables e below (T20.setTop (mkF m 43 #[.val (.int g0), .val (.int x0), .val (.int d0), .val (.int gg), .val (.int xx), .val (.int yy), .val (.ref a1), .val (.int (0 : Int32)), .unset, .unset, .unset, .unset, .unset, .unset, .unset, .unset, .unset] [])) _
    refine XS.aload X20.here hx rfl (hb hby at_43) rfl rfl ?_
    show Steps p.tables e below (T20.setTop (mkF m 45 #[.val (.int g0), .val (.int x0), .val (.int d0), .val (.int gg), .val (.int xx), .val (.int yy), .val (.ref a1), .val (.int (0 : Int32)), .unset, .unset, .unset, .unset, .unset, .unset, .unset, .unset, .unset] [(.ref a1)])) _
    exact k
  obtain ⟨cq26, kq26, q26a, q26b, q26c⟩ := isOf hZ e20 E22_0
  obtain ⟨_, _, ⟨T26, L26, k26, n26⟩, -, X26, ⟨Lc26, hQ26, l26, y26, z26⟩, st26⟩ := X20.virtualBack hx (y := (⟨"com/example/hasselt/hasselt/storage/Numbers", "take", "()I"⟩ : MethodName)) (z := (⟨"com/example/hasselt/hasselt/storage/Numbers", "take", "()I"⟩ : MethodName)) hown (mvT hZ (hw _ (List.mem_of_getElem? (i := 13) rfl))) (mvT hZ (hw _ (List.mem_of_getElem? (i := 14) rfl))) (notFace_of_selects (args := #[]) (mvT hZ (hw _ (List.mem_of_getElem? (i := 16) rfl)))) (mvT hZ (hw _ (List.mem_of_getElem? (i := 16) rfl))) (mvT hZ (hw _ (List.mem_of_getElem? (i := 15) rfl))) (by decide) (backOf (W := 0) (rm3a l Z a0 hw [] a1 fa (0 : Int32) ((0 : Int32) + (1 : Int32)) h20 n0 Z22 E22_0 g_a1 Fa20 Fb20 Fc20 (by decide)) hZ (hw _ (List.mem_of_getElem? (i := 17) rfl)) (hw _ (List.mem_of_getElem? (i := 3) rfl)) (by decide) (by decide)) q26a q26c (g := (mkF m 45 #[.val (.int g0), .val (.int x0), .val (.int d0), .val (.int gg), .val (.int xx), .val (.int yy), .val (.ref a1), .val (.int (0 : Int32)), .unset, .unset, .unset, .unset, .unset, .unset, .unset, .unset, .unset] [(.ref a1)])) rfl (by rw [hml]; rfl) (Steps.refl _) (argsL := []) (rest := []) (lenOf pd_i rfl) rfl (by show 2 * 0 + _ ≤ _; exact Nat.le_of_eq rfl) (hb hby at_45) (fun _ _ => ⟨rfl, e20, (by decide : 2 + 0 ≤ _), (by decide : 11 + 0 ≤ _)⟩)
  dsimp only [Pt.U, Pt.locs, Pt.cells, Pt.slots] at X26 l26 y26 z26 st26 hQ26
  subst l26 y26 z26
  obtain ⟨rfl, Nq26, Kq26, Fa26, Fb26, Fc26⟩ := hQ26
  have N26 := Fr.app N20 Nq26
  have pre27 : ∀ t, Steps p.tables e below (T26.setTop (mkF m 48 #[.val (.int g0), .val (.int x0), .val (.int d0), .val (.int gg), .val (.int xx), .val (.int yy), .val (.ref a1), .val (.int (0 : Int32)), .unset, .unset, .unset, .unset, .unset, .unset, .unset, .unset, .unset] [(.int ((0 : Int32) + (1 : Int32)))])) t → Steps p.tables e below (s₁.setTop (entryFrame m #[(.int g0), (.int x0), (.int d0)] maxLocals)) t := fun t k => pre24 t (st26.trans k)
  obtain ⟨h26, e26⟩ : ∃ z, T26.heap = z := ⟨_, rfl⟩
  rw [e26] at Kq26 Fa26 Fb26 Fc26
  have E28_0 : Exa Z h26 a1 "com/example/hasselt/hasselt/storage/Numbers" := (E22_0.keep Kq26)
  have V28_0 : Arv Z h26 fa kk .int (8 : Int32) [(.int (0 : Int32)), (.int (0 : Int32)), (.int (0 : Int32)), (.int (0 : Int32)), (.int (0 : Int32)), (.int (0 : Int32)), (.int (0 : Int32)), (.int (0 : Int32))] (.int (0 : Int32)) := (V22_0.keep Kq26 (ninS ne_a1_fa.symm nin0))
  have Z28 : n0 ≤ h26.size := (Nat.le_trans Z22 Kq26.1)
  have pre30 : ∀ t, Steps p.tables e below (T26.setTop (mkF m 52 #[.val (.int g0), .val (.int x0), .val (.int d0), .val (.int gg), .val (.int xx), .val (.int yy), .val (.ref a1), .val (.int (0 : Int32)), .val (.int ((0 : Int32) + (1 : Int32))), .unset, .unset, .unset, .unset, .unset, .unset, .unset, .unset] [(.ref a1)])) t → Steps p.tables e below (s₁.setTop (entryFrame m #[(.int g0), (.int x0), (.int d0)] maxLocals)) t := by
    intro t k
    refine pre27 t ?_
    refine XS.istore X26.here hx rfl (hb hby at_48) rfl (l' := #[.val (.int g0), .val (.int x0), .val (.int d0), .val (.int gg), .val (.int xx), .val (.int yy), .val (.ref a1), .val (.int (0 : Int32)), .val (.int ((0 : Int32) + (1 : Int32))), .unset, .unset, .unset, .unset, .unset, .unset, .unset, .unset]) rfl ?_
    show Steps p.tables e below (T26.setTop (mkF m 50 #[.val (.int g0), .val (.int x0), .val (.int d0), .val (.int gg), .val (.int xx), .val (.int yy), .val (.ref a1), .val (.int (0 : Int32)), .val (.int ((0 : Int32) + (1 : Int32))), .unset, .unset, .unset, .unset, .unset, .unset, .unset, .unset] [])) _
    refine XS.aload X26.here hx rfl (hb hby at_50) rfl rfl ?_
    show Steps p.tables e below (T26.setTop (mkF m 52 #[.val (.int g0), .val (.int x0), .val (.int d0), .val (.int gg), .val (.int xx), .val (.int yy), .val (.ref a1), .val (.int (0 : Int32)), .val (.int ((0 : Int32) + (1 : Int32))), .unset, .unset, .unset, .unset, .unset, .unset, .unset, .unset] [(.ref a1)])) _
    exact k
  obtain ⟨cq32, kq32, q32a, q32b, q32c⟩ := isOf hZ e26 E28_0
  obtain ⟨_, _, ⟨T32, L32, k32, n32⟩, -, X32, ⟨Lc32, hQ32, l32, y32, z32⟩, st32⟩ := X26.virtualBack hx (y := (⟨"com/example/hasselt/hasselt/storage/Numbers", "take", "()I"⟩ : MethodName)) (z := (⟨"com/example/hasselt/hasselt/storage/Numbers", "take", "()I"⟩ : MethodName)) hown (mvT hZ (hw _ (List.mem_of_getElem? (i := 13) rfl))) (mvT hZ (hw _ (List.mem_of_getElem? (i := 14) rfl))) (notFace_of_selects (args := #[]) (mvT hZ (hw _ (List.mem_of_getElem? (i := 16) rfl)))) (mvT hZ (hw _ (List.mem_of_getElem? (i := 16) rfl))) (mvT hZ (hw _ (List.mem_of_getElem? (i := 15) rfl))) (by decide) (backOf (W := 0) (rm3a l Z a0 hw [] a1 fa (0 : Int32) (((0 : Int32) + (1 : Int32)) + (1 : Int32)) h26 n0 Z28 E28_0 g_a1 Fa26 Fb26 Fc26 (by decide)) hZ (hw _ (List.mem_of_getElem? (i := 17) rfl)) (hw _ (List.mem_of_getElem? (i := 3) rfl)) (by decide) (by decide)) q32a q32c (g := (mkF m 52 #[.val (.int g0), .val (.int x0), .val (.int d0), .val (.int gg), .val (.int xx), .val (.int yy), .val (.ref a1), .val (.int (0 : Int32)), .val (.int ((0 : Int32) + (1 : Int32))), .unset, .unset, .unset, .unset, .unset, .unset, .unset, .unset] [(.ref a1)])) rfl (by rw [hml]; rfl) (Steps.refl _) (argsL := []) (rest := []) (lenOf pd_i rfl) rfl (by show 2 * 0 + _ ≤ _; exact Nat.le_of_eq rfl) (hb hby at_52) (fun _ _ => ⟨rfl, e26, (by decide : 2 + 0 ≤ _), (by decide : 11 + 0 ≤ _)⟩)
  dsimp only [Pt.U, Pt.locs, Pt.cells, Pt.slots] at X32 l32 y32 z32 st32 hQ32
  subst l32 y32 z32
  obtain ⟨rfl, Nq32, Kq32, Fa32, Fb32, Fc32⟩ := hQ32
  have N32 := Fr.app N26 Nq32
  have pre33 : ∀ t, Steps p.tables e below (T32.setTop (mkF m 55 #[.val (.int g0), .val (.int x0), .val (.int d0), .val (.int gg), .val (.int xx), .val (.int yy), .val (.ref a1), .val (.int (0 : Int32)), .val (.int ((0 : Int32) + (1 : Int32))), .unset, .unset, .unset, .unset, .unset, .unset, .unset, .unset] [(.int (((0 : Int32) + (1 : Int32)) + (1 : Int32)))])) t → Steps p.tables e below (s₁.setTop (entryFrame m #[(.int g0), (.int x0), (.int d0)] maxLocals)) t := fun t k => pre30 t (st32.trans k)
  obtain ⟨h32, e32⟩ : ∃ z, T32.heap = z := ⟨_, rfl⟩
  rw [e32] at Kq32 Fa32 Fb32 Fc32
  have E34_0 : Exa Z h32 a1 "com/example/hasselt/hasselt/storage/Numbers" := (E28_0.keep Kq32)
  have V34_0 : Arv Z h32 fa kk .int (8 : Int32) [(.int (0 : Int32)), (.int (0 : Int32)), (.int (0 : Int32)), (.int (0 : Int32)), (.int (0 : Int32)), (.int (0 : Int32)), (.int (0 : Int32)), (.int (0 : Int32))] (.int (0 : Int32)) := (V28_0.keep Kq32 (ninS ne_a1_fa.symm nin0))
  have Z34 : n0 ≤ h32.size := (Nat.le_trans Z28 Kq32.1)
  have pre35 : ∀ t, Steps p.tables e below (T32.setTop (mkF m 83 #[.val (.int g0), .val (.int x0), .val (.int d0), .val (.int gg), .val (.int xx), .val (.int yy), .val (.ref a1), .val (.int (0 : Int32)), .val (.int ((0 : Int32) + (1 : Int32))), .val (.int (((0 : Int32) + (1 : Int32)) + (1 : Int32))), .val (.int (1 : Int32)), .unset, .unset, .unset, .unset, .unset, .unset] [(.int (1 : Int32)), (.int gg)])) t → Steps p.tables e below (s₁.setTop (entryFrame m #[(.int g0), (.int x0), (.int d0)] maxLocals)) t := by
    intro t k
    refine pre33 t ?_
    refine XS.istore X32.here hx rfl (hb hby at_55) rfl (l' := #[.val (.int g0), .val (.int x0), .val (.int d0), .val (.int gg), .val (.int xx), .val (.int yy), .val (.ref a1), .val (.int (0 : Int32)), .val (.int ((0 : Int32) + (1 : Int32))), .val (.int (((0 : Int32) + (1 : Int32)) + (1 : Int32))), .unset, .unset, .unset, .unset, .unset, .unset, .unset]) rfl ?_
    show Steps p.tables e below (T32.setTop (mkF m 57 #[.val (.int g0), .val (.int x0), .val (.int d0), .val (.int gg), .val (.int xx), .val (.int yy), .val (.ref a1), .val (.int (0 : Int32)), .val (.int ((0 : Int32) + (1 : Int32))), .val (.int (((0 : Int32) + (1 : Int32)) + (1 : Int32))), .unset, .unset, .unset, .unset, .unset, .unset, .unset] [])) _
    refine XS.iload X32.here hx rfl (hb hby at_57) rfl ?_
    show Steps p.tables e below (T32.setTop (mkF m 59 #[.val (.int g0), .val (.int x0), .val (.int d0), .val (.int gg), .val (.int xx), .val (.int yy), .val (.ref a1), .val (.int (0 : Int32)), .val (.int ((0 : Int32) + (1 : Int32))), .val (.int (((0 : Int32) + (1 : Int32)) + (1 : Int32))), .unset, .unset, .unset, .unset, .unset, .unset, .unset] [(.int (0 : Int32))])) _
    refine XS.ifNo X32.here hx rfl (hb hby at_59) rfl (XT.i0_ne_f (by decide)) ?_
    show Steps p.tables e below (T32.setTop (mkF m 62 #[.val (.int g0), .val (.int x0), .val (.int d0), .val (.int gg), .val (.int xx), .val (.int yy), .val (.ref a1), .val (.int (0 : Int32)), .val (.int ((0 : Int32) + (1 : Int32))), .val (.int (((0 : Int32) + (1 : Int32)) + (1 : Int32))), .unset, .unset, .unset, .unset, .unset, .unset, .unset] [])) _
    refine XS.iload X32.here hx rfl (hb hby at_62) rfl ?_
    show Steps p.tables e below (T32.setTop (mkF m 64 #[.val (.int g0), .val (.int x0), .val (.int d0), .val (.int gg), .val (.int xx), .val (.int yy), .val (.ref a1), .val (.int (0 : Int32)), .val (.int ((0 : Int32) + (1 : Int32))), .val (.int (((0 : Int32) + (1 : Int32)) + (1 : Int32))), .unset, .unset, .unset, .unset, .unset, .unset, .unset] [(.int ((0 : Int32) + (1 : Int32)))])) _
    refine XS.iconst X32.here hx rfl (hb hby at_64) ?_
    show Steps p.tables e below (T32.setTop (mkF m 65 #[.val (.int g0), .val (.int x0), .val (.int d0), .val (.int gg), .val (.int xx), .val (.int yy), .val (.ref a1), .val (.int (0 : Int32)), .val (.int ((0 : Int32) + (1 : Int32))), .val (.int (((0 : Int32) + (1 : Int32)) + (1 : Int32))), .unset, .unset, .unset, .unset, .unset, .unset, .unset] [(.int (1 : Int32)), (.int ((0 : Int32) + (1 : Int32)))])) _
    refine XS.icmpNo X32.here hx rfl (hb hby at_65) rfl (XT.ii_ne_f (by decide)) ?_
    show Steps p.tables e below (T32.setTop (mkF m 68 #[.val (.int g0), .val (.int x0), .val (.int d0), .val (.int gg), .val (.int xx), .val (.int yy), .val (.ref a1), .val (.int (0 : Int32)), .val (.int ((0 : Int32) + (1 : Int32))), .val (.int (((0 : Int32) + (1 : Int32)) + (1 : Int32))), .unset, .unset, .unset, .unset, .unset, .unset, .unset] [])) _
    refine XS.iload X32.here hx rfl (hb hby at_68) rfl ?_
    show Steps p.tables e below (T32.setTop (mkF m 70 #[.val (.int g0), .val (.int x0), .val (.int d0), .val (.int gg), .val (.int xx), .val (.int yy), .val (.ref a1), .val (.int (0 : Int32)), .val (.int ((0 : Int32) + (1 : Int32))), .val (.int (((0 : Int32) + (1 : Int32)) + (1 : Int32))), .unset, .unset, .unset, .unset, .unset, .unset, .unset] [(.int (((0 : Int32) + (1 : Int32)) + (1 : Int32)))])) _
    refine XS.iconst X32.here hx rfl (hb hby at_70) ?_
    show Steps p.tables e below (T32.setTop (mkF m 71 #[.val (.int g0), .val (.int x0), .val (.int d0), .val (.int gg), .val (.int xx), .val (.int yy), .val (.ref a1), .val (.int (0 : Int32)), .val (.int ((0 : Int32) + (1 : Int32))), .val (.int (((0 : Int32) + (1 : Int32)) + (1 : Int32))), .unset, .unset, .unset, .unset, .unset, .unset, .unset] [(.int (2 : Int32)), (.int (((0 : Int32) + (1 : Int32)) + (1 : Int32)))])) _
    refine XS.icmpNo X32.here hx rfl (hb hby at_71) rfl (XT.ii_ne_f (by decide)) ?_
    show Steps p.tables e below (T32.setTop (mkF m 74 #[.val (.int g0), .val (.int x0), .val (.int d0), .val (.int gg), .val (.int xx), .val (.int yy), .val (.ref a1), .val (.int (0 : Int32)), .val (.int ((0 : Int32) + (1 : Int32))), .val (.int (((0 : Int32) + (1 : Int32)) + (1 : Int32))), .unset, .unset, .unset, .unset, .unset, .unset, .unset] [])) _
    refine XS.iconst X32.here hx rfl (hb hby at_74) ?_
    show Steps p.tables e below (T32.setTop (mkF m 75 #[.val (.int g0), .val (.int x0), .val (.int d0), .val (.int gg), .val (.int xx), .val (.int yy), .val (.ref a1), .val (.int (0 : Int32)), .val (.int ((0 : Int32) + (1 : Int32))), .val (.int (((0 : Int32) + (1 : Int32)) + (1 : Int32))), .unset, .unset, .unset, .unset, .unset, .unset, .unset] [(.int (1 : Int32))])) _
    refine XS.goto X32.here hx rfl (pc0 := 75) (pc' := 79) rfl (hb hby at_75) (by decide) (by decide) ?_
    show Steps p.tables e below (T32.setTop (mkF m 79 #[.val (.int g0), .val (.int x0), .val (.int d0), .val (.int gg), .val (.int xx), .val (.int yy), .val (.ref a1), .val (.int (0 : Int32)), .val (.int ((0 : Int32) + (1 : Int32))), .val (.int (((0 : Int32) + (1 : Int32)) + (1 : Int32))), .unset, .unset, .unset, .unset, .unset, .unset, .unset] [(.int (1 : Int32))])) _
    refine XS.istore X32.here hx rfl (hb hby at_79) rfl (l' := #[.val (.int g0), .val (.int x0), .val (.int d0), .val (.int gg), .val (.int xx), .val (.int yy), .val (.ref a1), .val (.int (0 : Int32)), .val (.int ((0 : Int32) + (1 : Int32))), .val (.int (((0 : Int32) + (1 : Int32)) + (1 : Int32))), .val (.int (1 : Int32)), .unset, .unset, .unset, .unset, .unset, .unset]) rfl ?_
    show Steps p.tables e below (T32.setTop (mkF m 81 #[.val (.int g0), .val (.int x0), .val (.int d0), .val (.int gg), .val (.int xx), .val (.int yy), .val (.ref a1), .val (.int (0 : Int32)), .val (.int ((0 : Int32) + (1 : Int32))), .val (.int (((0 : Int32) + (1 : Int32)) + (1 : Int32))), .val (.int (1 : Int32)), .unset, .unset, .unset, .unset, .unset, .unset] [])) _
    refine XS.iloadN X32.here hx rfl (hb hby at_81) rfl ?_
    show Steps p.tables e below (T32.setTop (mkF m 82 #[.val (.int g0), .val (.int x0), .val (.int d0), .val (.int gg), .val (.int xx), .val (.int yy), .val (.ref a1), .val (.int (0 : Int32)), .val (.int ((0 : Int32) + (1 : Int32))), .val (.int (((0 : Int32) + (1 : Int32)) + (1 : Int32))), .val (.int (1 : Int32)), .unset, .unset, .unset, .unset, .unset, .unset] [(.int gg)])) _
    refine XS.iconst X32.here hx rfl (hb hby at_82) ?_
    show Steps p.tables e below (T32.setTop (mkF m 83 #[.val (.int g0), .val (.int x0), .val (.int d0), .val (.int gg), .val (.int xx), .val (.int yy), .val (.ref a1), .val (.int (0 : Int32)), .val (.int ((0 : Int32) + (1 : Int32))), .val (.int (((0 : Int32) + (1 : Int32)) + (1 : Int32))), .val (.int (1 : Int32)), .unset, .unset, .unset, .unset, .unset, .unset] [(.int (1 : Int32)), (.int gg)])) _
    exact k
  rcases own_three hn_gg with hq | hq | hq
  · subst hq
    have pre37 : ∀ t, Steps p.tables e below (T32.setTop (mkF m 107 #[.val (.int g0), .val (.int x0), .val (.int d0), .val (.int (0 : Int32)), .val (.int xx), .val (.int yy), .val (.ref a1), .val (.int (0 : Int32)), .val (.int ((0 : Int32) + (1 : Int32))), .val (.int (((0 : Int32) + (1 : Int32)) + (1 : Int32))), .val (.int (1 : Int32)), .unset, .unset, .unset, .unset, .unset, .unset] [(.ref a1)])) t → Steps p.tables e below (s₁.setTop (entryFrame m #[(.int g0), (.int x0), (.int d0)] maxLocals)) t := by
      intro t k
      refine pre35 t ?_
      refine XS.icmpYes X32.here hx rfl (pc0 := 83) (pc' := 93) rfl (hb hby at_83) rfl (XT.ii_lt_t (by decide)) (by decide) (by decide) ?_
      show Steps p.tables e below (T32.setTop (mkF m 93 #[.val (.int g0), .val (.int x0), .val (.int d0), .val (.int (0 : Int32)), .val (.int xx), .val (.int yy), .val (.ref a1), .val (.int (0 : Int32)), .val (.int ((0 : Int32) + (1 : Int32))), .val (.int (((0 : Int32) + (1 : Int32)) + (1 : Int32))), .val (.int (1 : Int32)), .unset, .unset, .unset, .unset, .unset, .unset] [])) _
      refine XS.iloadN X32.here hx rfl (hb hby at_93) rfl ?_
      show Steps p.tables e below (T32.setTop (mkF m 94 #[.val (.int g0), .val (.int x0), .val (.int d0), .val (.int (0 : Int32)), .val (.int xx), .val (.int yy), .val (.ref a1), .val (.int (0 : Int32)), .val (.int ((0 : Int32) + (1 : Int32))), .val (.int (((0 : Int32) + (1 : Int32)) + (1 : Int32))), .val (.int (1 : Int32)), .unset, .unset, .unset, .unset, .unset, .unset] [(.int (0 : Int32))])) _
      refine XS.iconst X32.here hx rfl (hb hby at_94) ?_
      show Steps p.tables e below (T32.setTop (mkF m 95 #[.val (.int g0), .val (.int x0), .val (.int d0), .val (.int (0 : Int32)), .val (.int xx), .val (.int yy), .val (.ref a1), .val (.int (0 : Int32)), .val (.int ((0 : Int32) + (1 : Int32))), .val (.int (((0 : Int32) + (1 : Int32)) + (1 : Int32))), .val (.int (1 : Int32)), .unset, .unset, .unset, .unset, .unset, .unset] [(.int (2 : Int32)), (.int (0 : Int32))])) _
      refine XS.icmpYes X32.here hx rfl (pc0 := 95) (pc' := 105) rfl (hb hby at_95) rfl (XT.ii_ne_t (by decide)) (by decide) (by decide) ?_
      show Steps p.tables e below (T32.setTop (mkF m 105 #[.val (.int g0), .val (.int x0), .val (.int d0), .val (.int (0 : Int32)), .val (.int xx), .val (.int yy), .val (.ref a1), .val (.int (0 : Int32)), .val (.int ((0 : Int32) + (1 : Int32))), .val (.int (((0 : Int32) + (1 : Int32)) + (1 : Int32))), .val (.int (1 : Int32)), .unset, .unset, .unset, .unset, .unset, .unset] [])) _
      refine XS.aload X32.here hx rfl (hb hby at_105) rfl rfl ?_
      show Steps p.tables e below (T32.setTop (mkF m 107 #[.val (.int g0), .val (.int x0), .val (.int d0), .val (.int (0 : Int32)), .val (.int xx), .val (.int yy), .val (.ref a1), .val (.int (0 : Int32)), .val (.int ((0 : Int32) + (1 : Int32))), .val (.int (((0 : Int32) + (1 : Int32)) + (1 : Int32))), .val (.int (1 : Int32)), .unset, .unset, .unset, .unset, .unset, .unset] [(.ref a1)])) _
      exact k
    obtain ⟨cq39, kq39, q39a, q39b, q39c⟩ := isOf hZ e32 E34_0
    obtain ⟨_, _, ⟨T39, L39, k39, n39⟩, -, X39, ⟨Lc39, hQ39, l39, y39, z39⟩, st39⟩ := X32.virtualBack hx (y := (⟨"com/example/hasselt/hasselt/storage/Numbers", "take", "()I"⟩ : MethodName)) (z := (⟨"com/example/hasselt/hasselt/storage/Numbers", "take", "()I"⟩ : MethodName)) hown (mvT hZ (hw _ (List.mem_of_getElem? (i := 13) rfl))) (mvT hZ (hw _ (List.mem_of_getElem? (i := 14) rfl))) (notFace_of_selects (args := #[]) (mvT hZ (hw _ (List.mem_of_getElem? (i := 16) rfl)))) (mvT hZ (hw _ (List.mem_of_getElem? (i := 16) rfl))) (mvT hZ (hw _ (List.mem_of_getElem? (i := 15) rfl))) (by decide) (backOf (W := 0) (rm3a l Z a0 hw [] a1 fa (0 : Int32) ((((0 : Int32) + (1 : Int32)) + (1 : Int32)) + (1 : Int32)) h32 n0 Z34 E34_0 g_a1 Fa32 Fb32 Fc32 (by decide)) hZ (hw _ (List.mem_of_getElem? (i := 17) rfl)) (hw _ (List.mem_of_getElem? (i := 3) rfl)) (by decide) (by decide)) q39a q39c (g := (mkF m 107 #[.val (.int g0), .val (.int x0), .val (.int d0), .val (.int (0 : Int32)), .val (.int xx), .val (.int yy), .val (.ref a1), .val (.int (0 : Int32)), .val (.int ((0 : Int32) + (1 : Int32))), .val (.int (((0 : Int32) + (1 : Int32)) + (1 : Int32))), .val (.int (1 : Int32)), .unset, .unset, .unset, .unset, .unset, .unset] [(.ref a1)])) rfl (by rw [hml]; rfl) (Steps.refl _) (argsL := []) (rest := []) (lenOf pd_i rfl) rfl (by show 2 * 0 + _ ≤ _; exact Nat.le_of_eq rfl) (hb hby at_107) (fun _ _ => ⟨rfl, e32, (by decide : 2 + 0 ≤ _), (by decide : 11 + 0 ≤ _)⟩)
    dsimp only [Pt.U, Pt.locs, Pt.cells, Pt.slots] at X39 l39 y39 z39 st39 hQ39
    subst l39 y39 z39
    obtain ⟨rfl, Nq39, Kq39, Fa39, Fb39, Fc39⟩ := hQ39
    have N39 := Fr.app N32 Nq39
    have pre40 : ∀ t, Steps p.tables e below (T39.setTop (mkF m 110 #[.val (.int g0), .val (.int x0), .val (.int d0), .val (.int (0 : Int32)), .val (.int xx), .val (.int yy), .val (.ref a1), .val (.int (0 : Int32)), .val (.int ((0 : Int32) + (1 : Int32))), .val (.int (((0 : Int32) + (1 : Int32)) + (1 : Int32))), .val (.int (1 : Int32)), .unset, .unset, .unset, .unset, .unset, .unset] [(.int ((((0 : Int32) + (1 : Int32)) + (1 : Int32)) + (1 : Int32)))])) t → Steps p.tables e below (s₁.setTop (entryFrame m #[(.int g0), (.int x0), (.int d0)] maxLocals)) t := fun t k => pre37 t (st39.trans k)
    obtain ⟨h39, e39⟩ : ∃ z, T39.heap = z := ⟨_, rfl⟩
    rw [e39] at Kq39 Fa39 Fb39 Fc39
    have E41_0 : Exa Z h39 a1 "com/example/hasselt/hasselt/storage/Numbers" := (E34_0.keep Kq39)
    have V41_0 : Arv Z h39 fa kk .int (8 : Int32) [(.int (0 : Int32)), (.int (0 : Int32)), (.int (0 : Int32)), (.int (0 : Int32)), (.int (0 : Int32)), (.int (0 : Int32)), (.int (0 : Int32)), (.int (0 : Int32))] (.int (0 : Int32)) := (V34_0.keep Kq39 (ninS ne_a1_fa.symm nin0))
    have Z41 : n0 ≤ h39.size := (Nat.le_trans Z34 Kq39.1)
    have pre43 : ∀ t, Steps p.tables e below (T39.setTop (mkF m 114 #[.val (.int g0), .val (.int x0), .val (.int d0), .val (.int (0 : Int32)), .val (.int xx), .val (.int yy), .val (.ref a1), .val (.int (0 : Int32)), .val (.int ((0 : Int32) + (1 : Int32))), .val (.int (((0 : Int32) + (1 : Int32)) + (1 : Int32))), .val (.int (1 : Int32)), .val (.int ((((0 : Int32) + (1 : Int32)) + (1 : Int32)) + (1 : Int32))), .unset, .unset, .unset, .unset, .unset] [(.ref a1)])) t → Steps p.tables e below (s₁.setTop (entryFrame m #[(.int g0), (.int x0), (.int d0)] maxLocals)) t := by
      intro t k
      refine pre40 t ?_
      refine XS.istore X39.here hx rfl (hb hby at_110) rfl (l' := #[.val (.int g0), .val (.int x0), .val (.int d0), .val (.int (0 : Int32)), .val (.int xx), .val (.int yy), .val (.ref a1), .val (.int (0 : Int32)), .val (.int ((0 : Int32) + (1 : Int32))), .val (.int (((0 : Int32) + (1 : Int32)) + (1 : Int32))), .val (.int (1 : Int32)), .val (.int ((((0 : Int32) + (1 : Int32)) + (1 : Int32)) + (1 : Int32))), .unset, .unset, .unset, .unset, .unset]) rfl ?_
      show Steps p.tables e below (T39.setTop (mkF m 112 #[.val (.int g0), .val (.int x0), .val (.int d0), .val (.int (0 : Int32)), .val (.int xx), .val (.int yy), .val (.ref a1), .val (.int (0 : Int32)), .val (.int ((0 : Int32) + (1 : Int32))), .val (.int (((0 : Int32) + (1 : Int32)) + (1 : Int32))), .val (.int (1 : Int32)), .val (.int ((((0 : Int32) + (1 : Int32)) + (1 : Int32)) + (1 : Int32))), .unset, .unset, .unset, .unset, .unset] [])) _
      refine XS.aload X39.here hx rfl (hb hby at_112) rfl rfl ?_
      show Steps p.tables e below (T39.setTop (mkF m 114 #[.val (.int g0), .val (.int x0), .val (.int d0), .val (.int (0 : Int32)), .val (.int xx), .val (.int yy), .val (.ref a1), .val (.int (0 : Int32)), .val (.int ((0 : Int32) + (1 : Int32))), .val (.int (((0 : Int32) + (1 : Int32)) + (1 : Int32))), .val (.int (1 : Int32)), .val (.int ((((0 : Int32) + (1 : Int32)) + (1 : Int32)) + (1 : Int32))), .unset, .unset, .unset, .unset, .unset] [(.ref a1)])) _
      exact k
    obtain ⟨cq45, kq45, q45a, q45b, q45c⟩ := isOf hZ e39 E41_0
    obtain ⟨_, _, ⟨T45, L45, k45, n45⟩, -, X45, ⟨Lc45, hQ45, l45, y45, z45⟩, st45⟩ := X39.virtualBack hx (y := (⟨"com/example/hasselt/hasselt/storage/Numbers", "take", "()I"⟩ : MethodName)) (z := (⟨"com/example/hasselt/hasselt/storage/Numbers", "take", "()I"⟩ : MethodName)) hown (mvT hZ (hw _ (List.mem_of_getElem? (i := 13) rfl))) (mvT hZ (hw _ (List.mem_of_getElem? (i := 14) rfl))) (notFace_of_selects (args := #[]) (mvT hZ (hw _ (List.mem_of_getElem? (i := 16) rfl)))) (mvT hZ (hw _ (List.mem_of_getElem? (i := 16) rfl))) (mvT hZ (hw _ (List.mem_of_getElem? (i := 15) rfl))) (by decide) (backOf (W := 0) (rm3a l Z a0 hw [] a1 fa (0 : Int32) (((((0 : Int32) + (1 : Int32)) + (1 : Int32)) + (1 : Int32)) + (1 : Int32)) h39 n0 Z41 E41_0 g_a1 Fa39 Fb39 Fc39 (by decide)) hZ (hw _ (List.mem_of_getElem? (i := 17) rfl)) (hw _ (List.mem_of_getElem? (i := 3) rfl)) (by decide) (by decide)) q45a q45c (g := (mkF m 114 #[.val (.int g0), .val (.int x0), .val (.int d0), .val (.int (0 : Int32)), .val (.int xx), .val (.int yy), .val (.ref a1), .val (.int (0 : Int32)), .val (.int ((0 : Int32) + (1 : Int32))), .val (.int (((0 : Int32) + (1 : Int32)) + (1 : Int32))), .val (.int (1 : Int32)), .val (.int ((((0 : Int32) + (1 : Int32)) + (1 : Int32)) + (1 : Int32))), .unset, .unset, .unset, .unset, .unset] [(.ref a1)])) rfl (by rw [hml]; rfl) (Steps.refl _) (argsL := []) (rest := []) (lenOf pd_i rfl) rfl (by show 2 * 0 + _ ≤ _; exact Nat.le_of_eq rfl) (hb hby at_114) (fun _ _ => ⟨rfl, e39, (by decide : 2 + 0 ≤ _), (by decide : 11 + 0 ≤ _)⟩)
    dsimp only [Pt.U, Pt.locs, Pt.cells, Pt.slots] at X45 l45 y45 z45 st45 hQ45
    subst l45 y45 z45
    obtain ⟨rfl, Nq45, Kq45, Fa45, Fb45, Fc45⟩ := hQ45
    have N45 := Fr.app N39 Nq45
    have pre46 : ∀ t, Steps p.tables e below (T45.setTop (mkF m 117 #[.val (.int g0), .val (.int x0), .val (.int d0), .val (.int (0 : Int32)), .val (.int xx), .val (.int yy), .val (.ref a1), .val (.int (0 : Int32)), .val (.int ((0 : Int32) + (1 : Int32))), .val (.int (((0 : Int32) + (1 : Int32)) + (1 : Int32))), .val (.int (1 : Int32)), .val (.int ((((0 : Int32) + (1 : Int32)) + (1 : Int32)) + (1 : Int32))), .unset, .unset, .unset, .unset, .unset] [(.int (((((0 : Int32) + (1 : Int32)) + (1 : Int32)) + (1 : Int32)) + (1 : Int32)))])) t → Steps p.tables e below (s₁.setTop (entryFrame m #[(.int g0), (.int x0), (.int d0)] maxLocals)) t := fun t k => pre43 t (st45.trans k)
    obtain ⟨h45, e45⟩ : ∃ z, T45.heap = z := ⟨_, rfl⟩
    rw [e45] at Kq45 Fa45 Fb45 Fc45
    have E47_0 : Exa Z h45 a1 "com/example/hasselt/hasselt/storage/Numbers" := (E41_0.keep Kq45)
    have V47_0 : Arv Z h45 fa kk .int (8 : Int32) [(.int (0 : Int32)), (.int (0 : Int32)), (.int (0 : Int32)), (.int (0 : Int32)), (.int (0 : Int32)), (.int (0 : Int32)), (.int (0 : Int32)), (.int (0 : Int32))] (.int (0 : Int32)) := (V41_0.keep Kq45 (ninS ne_a1_fa.symm nin0))
    have Z47 : n0 ≤ h45.size := (Nat.le_trans Z41 Kq45.1)
    have pre49 : ∀ t, Steps p.tables e below (T45.setTop (mkF m 121 #[.val (.int g0), .val (.int x0), .val (.int d0), .val (.int (0 : Int32)), .val (.int xx), .val (.int yy), .val (.ref a1), .val (.int (0 : Int32)), .val (.int ((0 : Int32) + (1 : Int32))), .val (.int (((0 : Int32) + (1 : Int32)) + (1 : Int32))), .val (.int (1 : Int32)), .val (.int ((((0 : Int32) + (1 : Int32)) + (1 : Int32)) + (1 : Int32))), .val (.int (((((0 : Int32) + (1 : Int32)) + (1 : Int32)) + (1 : Int32)) + (1 : Int32))), .unset, .unset, .unset, .unset] [(.ref a1)])) t → Steps p.tables e below (s₁.setTop (entryFrame m #[(.int g0), (.int x0), (.int d0)] maxLocals)) t := by
      intro t k
      refine pre46 t ?_
      refine XS.istore X45.here hx rfl (hb hby at_117) rfl (l' := #[.val (.int g0), .val (.int x0), .val (.int d0), .val (.int (0 : Int32)), .val (.int xx), .val (.int yy), .val (.ref a1), .val (.int (0 : Int32)), .val (.int ((0 : Int32) + (1 : Int32))), .val (.int (((0 : Int32) + (1 : Int32)) + (1 : Int32))), .val (.int (1 : Int32)), .val (.int ((((0 : Int32) + (1 : Int32)) + (1 : Int32)) + (1 : Int32))), .val (.int (((((0 : Int32) + (1 : Int32)) + (1 : Int32)) + (1 : Int32)) + (1 : Int32))), .unset, .unset, .unset, .unset]) rfl ?_
      show Steps p.tables e below (T45.setTop (mkF m 119 #[.val (.int g0), .val (.int x0), .val (.int d0), .val (.int (0 : Int32)), .val (.int xx), .val (.int yy), .val (.ref a1), .val (.int (0 : Int32)), .val (.int ((0 : Int32) + (1 : Int32))), .val (.int (((0 : Int32) + (1 : Int32)) + (1 : Int32))), .val (.int (1 : Int32)), .val (.int ((((0 : Int32) + (1 : Int32)) + (1 : Int32)) + (1 : Int32))), .val (.int (((((0 : Int32) + (1 : Int32)) + (1 : Int32)) + (1 : Int32)) + (1 : Int32))), .unset, .unset, .unset, .unset] [])) _
      refine XS.aload X45.here hx rfl (hb hby at_119) rfl rfl ?_
      show Steps p.tables e below (T45.setTop (mkF m 121 #[.val (.int g0), .val (.int x0), .val (.int d0), .val (.int (0 : Int32)), .val (.int xx), .val (.int yy), .val (.ref a1), .val (.int (0 : Int32)), .val (.int ((0 : Int32) + (1 : Int32))), .val (.int (((0 : Int32) + (1 : Int32)) + (1 : Int32))), .val (.int (1 : Int32)), .val (.int ((((0 : Int32) + (1 : Int32)) + (1 : Int32)) + (1 : Int32))), .val (.int (((((0 : Int32) + (1 : Int32)) + (1 : Int32)) + (1 : Int32)) + (1 : Int32))), .unset, .unset, .unset, .unset] [(.ref a1)])) _
      exact k
    obtain ⟨cq51, kq51, q51a, q51b, q51c⟩ := isOf hZ e45 E47_0
    obtain ⟨_, _, ⟨T51, L51, k51, n51⟩, -, X51, ⟨Lc51, hQ51, l51, y51, z51⟩, st51⟩ := X45.virtualBack hx (y := (⟨"com/example/hasselt/hasselt/storage/Numbers", "take", "()I"⟩ : MethodName)) (z := (⟨"com/example/hasselt/hasselt/storage/Numbers", "take", "()I"⟩ : MethodName)) hown (mvT hZ (hw _ (List.mem_of_getElem? (i := 13) rfl))) (mvT hZ (hw _ (List.mem_of_getElem? (i := 14) rfl))) (notFace_of_selects (args := #[]) (mvT hZ (hw _ (List.mem_of_getElem? (i := 16) rfl)))) (mvT hZ (hw _ (List.mem_of_getElem? (i := 16) rfl))) (mvT hZ (hw _ (List.mem_of_getElem? (i := 15) rfl))) (by decide) (backOf (W := 0) (rm3a l Z a0 hw [] a1 fa (0 : Int32) ((((((0 : Int32) + (1 : Int32)) + (1 : Int32)) + (1 : Int32)) + (1 : Int32)) + (1 : Int32)) h45 n0 Z47 E47_0 g_a1 Fa45 Fb45 Fc45 (by decide)) hZ (hw _ (List.mem_of_getElem? (i := 17) rfl)) (hw _ (List.mem_of_getElem? (i := 3) rfl)) (by decide) (by decide)) q51a q51c (g := (mkF m 121 #[.val (.int g0), .val (.int x0), .val (.int d0), .val (.int (0 : Int32)), .val (.int xx), .val (.int yy), .val (.ref a1), .val (.int (0 : Int32)), .val (.int ((0 : Int32) + (1 : Int32))), .val (.int (((0 : Int32) + (1 : Int32)) + (1 : Int32))), .val (.int (1 : Int32)), .val (.int ((((0 : Int32) + (1 : Int32)) + (1 : Int32)) + (1 : Int32))), .val (.int (((((0 : Int32) + (1 : Int32)) + (1 : Int32)) + (1 : Int32)) + (1 : Int32))), .unset, .unset, .unset, .unset] [(.ref a1)])) rfl (by rw [hml]; rfl) (Steps.refl _) (argsL := []) (rest := []) (lenOf pd_i rfl) rfl (by show 2 * 0 + _ ≤ _; exact Nat.le_of_eq rfl) (hb hby at_121) (fun _ _ => ⟨rfl, e45, (by decide : 2 + 0 ≤ _), (by decide : 11 + 0 ≤ _)⟩)
    dsimp only [Pt.U, Pt.locs, Pt.cells, Pt.slots] at X51 l51 y51 z51 st51 hQ51
    subst l51 y51 z51
    obtain ⟨rfl, Nq51, Kq51, Fa51, Fb51, Fc51⟩ := hQ51
    have N51 := Fr.app N45 Nq51
    have pre52 : ∀ t, Steps p.tables e below (T51.setTop (mkF m 124 #[.val (.int g0), .val (.int x0), .val (.int d0), .val (.int (0 : Int32)), .val (.int xx), .val (.int yy), .val (.ref a1), .val (.int (0 : Int32)), .val (.int ((0 : Int32) + (1 : Int32))), .val (.int (((0 : Int32) + (1 : Int32)) + (1 : Int32))), .val (.int (1 : Int32)), .val (.int ((((0 : Int32) + (1 : Int32)) + (1 : Int32)) + (1 : Int32))), .val (.int (((((0 : Int32) + (1 : Int32)) + (1 : Int32)) + (1 : Int32)) + (1 : Int32))), .unset, .unset, .unset, .unset] [(.int ((((((0 : Int32) + (1 : Int32)) + (1 : Int32)) + (1 : Int32)) + (1 : Int32)) + (1 : Int32)))])) t → Steps p.tables e below (s₁.setTop (entryFrame m #[(.int g0), (.int x0), (.int d0)] maxLocals)) t := fun t k => pre49 t (st51.trans k)
    obtain ⟨h51, e51⟩ : ∃ z, T51.heap = z := ⟨_, rfl⟩
    rw [e51] at Kq51 Fa51 Fb51 Fc51
    have E53_0 : Exa Z h51 a1 "com/example/hasselt/hasselt/storage/Numbers" := (E47_0.keep Kq51)
    have V53_0 : Arv Z h51 fa kk .int (8 : Int32) [(.int (0 : Int32)), (.int (0 : Int32)), (.int (0 : Int32)), (.int (0 : Int32)), (.int (0 : Int32)), (.int (0 : Int32)), (.int (0 : Int32)), (.int (0 : Int32))] (.int (0 : Int32)) := (V47_0.keep Kq51 (ninS ne_a1_fa.symm nin0))
    have Z53 : n0 ≤ h51.size := (Nat.le_trans Z47 Kq51.1)
    have pre55 : ∀ t, Steps p.tables e below (T51.setTop (mkF m 200 #[.val (.int g0), .val (.int x0), .val (.int d0), .val (.int (0 : Int32)), .val (.int xx), .val (.int yy), .val (.ref a1), .val (.int (0 : Int32)), .val (.int ((0 : Int32) + (1 : Int32))), .val (.int (((0 : Int32) + (1 : Int32)) + (1 : Int32))), .val (.int (1 : Int32)), .val (.int ((((0 : Int32) + (1 : Int32)) + (1 : Int32)) + (1 : Int32))), .val (.int (((((0 : Int32) + (1 : Int32)) + (1 : Int32)) + (1 : Int32)) + (1 : Int32))), .val (.int ((((((0 : Int32) + (1 : Int32)) + (1 : Int32)) + (1 : Int32)) + (1 : Int32)) + (1 : Int32))), .val (.int (3 : Int32)), .val (.int (4 : Int32)), .val (.int (5 : Int32))] [(.ref a1)])) t → Steps p.tables e below (s₁.setTop (entryFrame m #[(.int g0), (.int x0), (.int d0)] maxLocals)) t := by
      intro t k
      refine pre52 t ?_
      refine XS.istore X51.here hx rfl (hb hby at_124) rfl (l' := #[.val (.int g0), .val (.int x0), .val (.int d0), .val (.int (0 : Int32)), .val (.int xx), .val (.int yy), .val (.ref a1), .val (.int (0 : Int32)), .val (.int ((0 : Int32) + (1 : Int32))), .val (.int (((0 : Int32) + (1 : Int32)) + (1 : Int32))), .val (.int (1 : Int32)), .val (.int ((((0 : Int32) + (1 : Int32)) + (1 : Int32)) + (1 : Int32))), .val (.int (((((0 : Int32) + (1 : Int32)) + (1 : Int32)) + (1 : Int32)) + (1 : Int32))), .val (.int ((((((0 : Int32) + (1 : Int32)) + (1 : Int32)) + (1 : Int32)) + (1 : Int32)) + (1 : Int32))), .unset, .unset, .unset]) rfl ?_
      show Steps p.tables e below (T51.setTop (mkF m 126 #[.val (.int g0), .val (.int x0), .val (.int d0), .val (.int (0 : Int32)), .val (.int xx), .val (.int yy), .val (.ref a1), .val (.int (0 : Int32)), .val (.int ((0 : Int32) + (1 : Int32))), .val (.int (((0 : Int32) + (1 : Int32)) + (1 : Int32))), .val (.int (1 : Int32)), .val (.int ((((0 : Int32) + (1 : Int32)) + (1 : Int32)) + (1 : Int32))), .val (.int (((((0 : Int32) + (1 : Int32)) + (1 : Int32)) + (1 : Int32)) + (1 : Int32))), .val (.int ((((((0 : Int32) + (1 : Int32)) + (1 : Int32)) + (1 : Int32)) + (1 : Int32)) + (1 : Int32))), .unset, .unset, .unset] [])) _
      refine XS.iloadN X51.here hx rfl (hb hby at_126) rfl ?_
      show Steps p.tables e below (T51.setTop (mkF m 127 #[.val (.int g0), .val (.int x0), .val (.int d0), .val (.int (0 : Int32)), .val (.int xx), .val (.int yy), .val (.ref a1), .val (.int (0 : Int32)), .val (.int ((0 : Int32) + (1 : Int32))), .val (.int (((0 : Int32) + (1 : Int32)) + (1 : Int32))), .val (.int (1 : Int32)), .val (.int ((((0 : Int32) + (1 : Int32)) + (1 : Int32)) + (1 : Int32))), .val (.int (((((0 : Int32) + (1 : Int32)) + (1 : Int32)) + (1 : Int32)) + (1 : Int32))), .val (.int ((((((0 : Int32) + (1 : Int32)) + (1 : Int32)) + (1 : Int32)) + (1 : Int32)) + (1 : Int32))), .unset, .unset, .unset] [(.int (0 : Int32))])) _
      refine XS.iconst X51.here hx rfl (hb hby at_127) ?_
      show Steps p.tables e below (T51.setTop (mkF m 128 #[.val (.int g0), .val (.int x0), .val (.int d0), .val (.int (0 : Int32)), .val (.int xx), .val (.int yy), .val (.ref a1), .val (.int (0 : Int32)), .val (.int ((0 : Int32) + (1 : Int32))), .val (.int (((0 : Int32) + (1 : Int32)) + (1 : Int32))), .val (.int (1 : Int32)), .val (.int ((((0 : Int32) + (1 : Int32)) + (1 : Int32)) + (1 : Int32))), .val (.int (((((0 : Int32) + (1 : Int32)) + (1 : Int32)) + (1 : Int32)) + (1 : Int32))), .val (.int ((((((0 : Int32) + (1 : Int32)) + (1 : Int32)) + (1 : Int32)) + (1 : Int32)) + (1 : Int32))), .unset, .unset, .unset] [(.int (2 : Int32)), (.int (0 : Int32))])) _
      refine XS.icmpYes X51.here hx rfl (pc0 := 128) (pc' := 145) rfl (hb hby at_128) rfl (XT.ii_ne_t (by decide)) (by decide) (by decide) ?_
      show Steps p.tables e below (T51.setTop (mkF m 145 #[.val (.int g0), .val (.int x0), .val (.int d0), .val (.int (0 : Int32)), .val (.int xx), .val (.int yy), .val (.ref a1), .val (.int (0 : Int32)), .val (.int ((0 : Int32) + (1 : Int32))), .val (.int (((0 : Int32) + (1 : Int32)) + (1 : Int32))), .val (.int (1 : Int32)), .val (.int ((((0 : Int32) + (1 : Int32)) + (1 : Int32)) + (1 : Int32))), .val (.int (((((0 : Int32) + (1 : Int32)) + (1 : Int32)) + (1 : Int32)) + (1 : Int32))), .val (.int ((((((0 : Int32) + (1 : Int32)) + (1 : Int32)) + (1 : Int32)) + (1 : Int32)) + (1 : Int32))), .unset, .unset, .unset] [])) _
      refine XS.iloadN X51.here hx rfl (hb hby at_145) rfl ?_
      show Steps p.tables e below (T51.setTop (mkF m 146 #[.val (.int g0), .val (.int x0), .val (.int d0), .val (.int (0 : Int32)), .val (.int xx), .val (.int yy), .val (.ref a1), .val (.int (0 : Int32)), .val (.int ((0 : Int32) + (1 : Int32))), .val (.int (((0 : Int32) + (1 : Int32)) + (1 : Int32))), .val (.int (1 : Int32)), .val (.int ((((0 : Int32) + (1 : Int32)) + (1 : Int32)) + (1 : Int32))), .val (.int (((((0 : Int32) + (1 : Int32)) + (1 : Int32)) + (1 : Int32)) + (1 : Int32))), .val (.int ((((((0 : Int32) + (1 : Int32)) + (1 : Int32)) + (1 : Int32)) + (1 : Int32)) + (1 : Int32))), .unset, .unset, .unset] [(.int (0 : Int32))])) _
      refine XS.iconst X51.here hx rfl (hb hby at_146) ?_
      show Steps p.tables e below (T51.setTop (mkF m 147 #[.val (.int g0), .val (.int x0), .val (.int d0), .val (.int (0 : Int32)), .val (.int xx), .val (.int yy), .val (.ref a1), .val (.int (0 : Int32)), .val (.int ((0 : Int32) + (1 : Int32))), .val (.int (((0 : Int32) + (1 : Int32)) + (1 : Int32))), .val (.int (1 : Int32)), .val (.int ((((0 : Int32) + (1 : Int32)) + (1 : Int32)) + (1 : Int32))), .val (.int (((((0 : Int32) + (1 : Int32)) + (1 : Int32)) + (1 : Int32)) + (1 : Int32))), .val (.int ((((((0 : Int32) + (1 : Int32)) + (1 : Int32)) + (1 : Int32)) + (1 : Int32)) + (1 : Int32))), .unset, .unset, .unset] [(.int (1 : Int32)), (.int (0 : Int32))])) _
      refine XS.icmpYes X51.here hx rfl (pc0 := 147) (pc' := 163) rfl (hb hby at_147) rfl (XT.ii_ne_t (by decide)) (by decide) (by decide) ?_
      show Steps p.tables e below (T51.setTop (mkF m 163 #[.val (.int g0), .val (.int x0), .val (.int d0), .val (.int (0 : Int32)), .val (.int xx), .val (.int yy), .val (.ref a1), .val (.int (0 : Int32)), .val (.int ((0 : Int32) + (1 : Int32))), .val (.int (((0 : Int32) + (1 : Int32)) + (1 : Int32))), .val (.int (1 : Int32)), .val (.int ((((0 : Int32) + (1 : Int32)) + (1 : Int32)) + (1 : Int32))), .val (.int (((((0 : Int32) + (1 : Int32)) + (1 : Int32)) + (1 : Int32)) + (1 : Int32))), .val (.int ((((((0 : Int32) + (1 : Int32)) + (1 : Int32)) + (1 : Int32)) + (1 : Int32)) + (1 : Int32))), .unset, .unset, .unset] [])) _
      refine XS.iconst X51.here hx rfl (hb hby at_163) ?_
      show Steps p.tables e below (T51.setTop (mkF m 164 #[.val (.int g0), .val (.int x0), .val (.int d0), .val (.int (0 : Int32)), .val (.int xx), .val (.int yy), .val (.ref a1), .val (.int (0 : Int32)), .val (.int ((0 : Int32) + (1 : Int32))), .val (.int (((0 : Int32) + (1 : Int32)) + (1 : Int32))), .val (.int (1 : Int32)), .val (.int ((((0 : Int32) + (1 : Int32)) + (1 : Int32)) + (1 : Int32))), .val (.int (((((0 : Int32) + (1 : Int32)) + (1 : Int32)) + (1 : Int32)) + (1 : Int32))), .val (.int ((((((0 : Int32) + (1 : Int32)) + (1 : Int32)) + (1 : Int32)) + (1 : Int32)) + (1 : Int32))), .unset, .unset, .unset] [(.int (3 : Int32))])) _
      refine XS.istore X51.here hx rfl (hb hby at_164) rfl (l' := #[.val (.int g0), .val (.int x0), .val (.int d0), .val (.int (0 : Int32)), .val (.int xx), .val (.int yy), .val (.ref a1), .val (.int (0 : Int32)), .val (.int ((0 : Int32) + (1 : Int32))), .val (.int (((0 : Int32) + (1 : Int32)) + (1 : Int32))), .val (.int (1 : Int32)), .val (.int ((((0 : Int32) + (1 : Int32)) + (1 : Int32)) + (1 : Int32))), .val (.int (((((0 : Int32) + (1 : Int32)) + (1 : Int32)) + (1 : Int32)) + (1 : Int32))), .val (.int ((((((0 : Int32) + (1 : Int32)) + (1 : Int32)) + (1 : Int32)) + (1 : Int32)) + (1 : Int32))), .val (.int (3 : Int32)), .unset, .unset]) rfl ?_
      show Steps p.tables e below (T51.setTop (mkF m 166 #[.val (.int g0), .val (.int x0), .val (.int d0), .val (.int (0 : Int32)), .val (.int xx), .val (.int yy), .val (.ref a1), .val (.int (0 : Int32)), .val (.int ((0 : Int32) + (1 : Int32))), .val (.int (((0 : Int32) + (1 : Int32)) + (1 : Int32))), .val (.int (1 : Int32)), .val (.int ((((0 : Int32) + (1 : Int32)) + (1 : Int32)) + (1 : Int32))), .val (.int (((((0 : Int32) + (1 : Int32)) + (1 : Int32)) + (1 : Int32)) + (1 : Int32))), .val (.int ((((((0 : Int32) + (1 : Int32)) + (1 : Int32)) + (1 : Int32)) + (1 : Int32)) + (1 : Int32))), .val (.int (3 : Int32)), .unset, .unset] [])) _
      refine XS.iconst X51.here hx rfl (hb hby at_166) ?_
      show Steps p.tables e below (T51.setTop (mkF m 167 #[.val (.int g0), .val (.int x0), .val (.int d0), .val (.int (0 : Int32)), .val (.int xx), .val (.int yy), .val (.ref a1), .val (.int (0 : Int32)), .val (.int ((0 : Int32) + (1 : Int32))), .val (.int (((0 : Int32) + (1 : Int32)) + (1 : Int32))), .val (.int (1 : Int32)), .val (.int ((((0 : Int32) + (1 : Int32)) + (1 : Int32)) + (1 : Int32))), .val (.int (((((0 : Int32) + (1 : Int32)) + (1 : Int32)) + (1 : Int32)) + (1 : Int32))), .val (.int ((((((0 : Int32) + (1 : Int32)) + (1 : Int32)) + (1 : Int32)) + (1 : Int32)) + (1 : Int32))), .val (.int (3 : Int32)), .unset, .unset] [(.int (4 : Int32))])) _
      refine XS.istore X51.here hx rfl (hb hby at_167) rfl (l' := #[.val (.int g0), .val (.int x0), .val (.int d0), .val (.int (0 : Int32)), .val (.int xx), .val (.int yy), .val (.ref a1), .val (.int (0 : Int32)), .val (.int ((0 : Int32) + (1 : Int32))), .val (.int (((0 : Int32) + (1 : Int32)) + (1 : Int32))), .val (.int (1 : Int32)), .val (.int ((((0 : Int32) + (1 : Int32)) + (1 : Int32)) + (1 : Int32))), .val (.int (((((0 : Int32) + (1 : Int32)) + (1 : Int32)) + (1 : Int32)) + (1 : Int32))), .val (.int ((((((0 : Int32) + (1 : Int32)) + (1 : Int32)) + (1 : Int32)) + (1 : Int32)) + (1 : Int32))), .val (.int (3 : Int32)), .val (.int (4 : Int32)), .unset]) rfl ?_
      show Steps p.tables e below (T51.setTop (mkF m 169 #[.val (.int g0), .val (.int x0), .val (.int d0), .val (.int (0 : Int32)), .val (.int xx), .val (.int yy), .val (.ref a1), .val (.int (0 : Int32)), .val (.int ((0 : Int32) + (1 : Int32))), .val (.int (((0 : Int32) + (1 : Int32)) + (1 : Int32))), .val (.int (1 : Int32)), .val (.int ((((0 : Int32) + (1 : Int32)) + (1 : Int32)) + (1 : Int32))), .val (.int (((((0 : Int32) + (1 : Int32)) + (1 : Int32)) + (1 : Int32)) + (1 : Int32))), .val (.int ((((((0 : Int32) + (1 : Int32)) + (1 : Int32)) + (1 : Int32)) + (1 : Int32)) + (1 : Int32))), .val (.int (3 : Int32)), .val (.int (4 : Int32)), .unset] [])) _
      refine XS.iconst X51.here hx rfl (hb hby at_169) ?_
      show Steps p.tables e below (T51.setTop (mkF m 170 #[.val (.int g0), .val (.int x0), .val (.int d0), .val (.int (0 : Int32)), .val (.int xx), .val (.int yy), .val (.ref a1), .val (.int (0 : Int32)), .val (.int ((0 : Int32) + (1 : Int32))), .val (.int (((0 : Int32) + (1 : Int32)) + (1 : Int32))), .val (.int (1 : Int32)), .val (.int ((((0 : Int32) + (1 : Int32)) + (1 : Int32)) + (1 : Int32))), .val (.int (((((0 : Int32) + (1 : Int32)) + (1 : Int32)) + (1 : Int32)) + (1 : Int32))), .val (.int ((((((0 : Int32) + (1 : Int32)) + (1 : Int32)) + (1 : Int32)) + (1 : Int32)) + (1 : Int32))), .val (.int (3 : Int32)), .val (.int (4 : Int32)), .unset] [(.int (5 : Int32))])) _
      refine XS.istore X51.here hx rfl (hb hby at_170) rfl (l' := #[.val (.int g0), .val (.int x0), .val (.int d0), .val (.int (0 : Int32)), .val (.int xx), .val (.int yy), .val (.ref a1), .val (.int (0 : Int32)), .val (.int ((0 : Int32) + (1 : Int32))), .val (.int (((0 : Int32) + (1 : Int32)) + (1 : Int32))), .val (.int (1 : Int32)), .val (.int ((((0 : Int32) + (1 : Int32)) + (1 : Int32)) + (1 : Int32))), .val (.int (((((0 : Int32) + (1 : Int32)) + (1 : Int32)) + (1 : Int32)) + (1 : Int32))), .val (.int ((((((0 : Int32) + (1 : Int32)) + (1 : Int32)) + (1 : Int32)) + (1 : Int32)) + (1 : Int32))), .val (.int (3 : Int32)), .val (.int (4 : Int32)), .val (.int (5 : Int32))]) rfl ?_
      show Steps p.tables e below (T51.setTop (mkF m 172 #[.val (.int g0), .val (.int x0), .val (.int d0), .val (.int (0 : Int32)), .val (.int xx), .val (.int yy), .val (.ref a1), .val (.int (0 : Int32)), .val (.int ((0 : Int32) + (1 : Int32))), .val (.int (((0 : Int32) + (1 : Int32)) + (1 : Int32))), .val (.int (1 : Int32)), .val (.int ((((0 : Int32) + (1 : Int32)) + (1 : Int32)) + (1 : Int32))), .val (.int (((((0 : Int32) + (1 : Int32)) + (1 : Int32)) + (1 : Int32)) + (1 : Int32))), .val (.int ((((((0 : Int32) + (1 : Int32)) + (1 : Int32)) + (1 : Int32)) + (1 : Int32)) + (1 : Int32))), .val (.int (3 : Int32)), .val (.int (4 : Int32)), .val (.int (5 : Int32))] [])) _
      refine XS.iload X51.here hx rfl (hb hby at_172) rfl ?_
      show Steps p.tables e below (T51.setTop (mkF m 174 #[.val (.int g0), .val (.int x0), .val (.int d0), .val (.int (0 : Int32)), .val (.int xx), .val (.int yy), .val (.ref a1), .val (.int (0 : Int32)), .val (.int ((0 : Int32) + (1 : Int32))), .val (.int (((0 : Int32) + (1 : Int32)) + (1 : Int32))), .val (.int (1 : Int32)), .val (.int ((((0 : Int32) + (1 : Int32)) + (1 : Int32)) + (1 : Int32))), .val (.int (((((0 : Int32) + (1 : Int32)) + (1 : Int32)) + (1 : Int32)) + (1 : Int32))), .val (.int ((((((0 : Int32) + (1 : Int32)) + (1 : Int32)) + (1 : Int32)) + (1 : Int32)) + (1 : Int32))), .val (.int (3 : Int32)), .val (.int (4 : Int32)), .val (.int (5 : Int32))] [(.int (1 : Int32))])) _
      refine XS.ifNo X51.here hx rfl (hb hby at_174) rfl (XT.i0_eq_f (by decide)) ?_
      show Steps p.tables e below (T51.setTop (mkF m 177 #[.val (.int g0), .val (.int x0), .val (.int d0), .val (.int (0 : Int32)), .val (.int xx), .val (.int yy), .val (.ref a1), .val (.int (0 : Int32)), .val (.int ((0 : Int32) + (1 : Int32))), .val (.int (((0 : Int32) + (1 : Int32)) + (1 : Int32))), .val (.int (1 : Int32)), .val (.int ((((0 : Int32) + (1 : Int32)) + (1 : Int32)) + (1 : Int32))), .val (.int (((((0 : Int32) + (1 : Int32)) + (1 : Int32)) + (1 : Int32)) + (1 : Int32))), .val (.int ((((((0 : Int32) + (1 : Int32)) + (1 : Int32)) + (1 : Int32)) + (1 : Int32)) + (1 : Int32))), .val (.int (3 : Int32)), .val (.int (4 : Int32)), .val (.int (5 : Int32))] [])) _
      refine XS.iload X51.here hx rfl (hb hby at_177) rfl ?_
      show Steps p.tables e below (T51.setTop (mkF m 179 #[.val (.int g0), .val (.int x0), .val (.int d0), .val (.int (0 : Int32)), .val (.int xx), .val (.int yy), .val (.ref a1), .val (.int (0 : Int32)), .val (.int ((0 : Int32) + (1 : Int32))), .val (.int (((0 : Int32) + (1 : Int32)) + (1 : Int32))), .val (.int (1 : Int32)), .val (.int ((((0 : Int32) + (1 : Int32)) + (1 : Int32)) + (1 : Int32))), .val (.int (((((0 : Int32) + (1 : Int32)) + (1 : Int32)) + (1 : Int32)) + (1 : Int32))), .val (.int ((((((0 : Int32) + (1 : Int32)) + (1 : Int32)) + (1 : Int32)) + (1 : Int32)) + (1 : Int32))), .val (.int (3 : Int32)), .val (.int (4 : Int32)), .val (.int (5 : Int32))] [(.int ((((0 : Int32) + (1 : Int32)) + (1 : Int32)) + (1 : Int32)))])) _
      refine XS.iload X51.here hx rfl (hb hby at_179) rfl ?_
      show Steps p.tables e below (T51.setTop (mkF m 181 #[.val (.int g0), .val (.int x0), .val (.int d0), .val (.int (0 : Int32)), .val (.int xx), .val (.int yy), .val (.ref a1), .val (.int (0 : Int32)), .val (.int ((0 : Int32) + (1 : Int32))), .val (.int (((0 : Int32) + (1 : Int32)) + (1 : Int32))), .val (.int (1 : Int32)), .val (.int ((((0 : Int32) + (1 : Int32)) + (1 : Int32)) + (1 : Int32))), .val (.int (((((0 : Int32) + (1 : Int32)) + (1 : Int32)) + (1 : Int32)) + (1 : Int32))), .val (.int ((((((0 : Int32) + (1 : Int32)) + (1 : Int32)) + (1 : Int32)) + (1 : Int32)) + (1 : Int32))), .val (.int (3 : Int32)), .val (.int (4 : Int32)), .val (.int (5 : Int32))] [(.int (3 : Int32)), (.int ((((0 : Int32) + (1 : Int32)) + (1 : Int32)) + (1 : Int32)))])) _
      refine XS.icmpNo X51.here hx rfl (hb hby at_181) rfl (XT.ii_ne_f (by decide)) ?_
      show Steps p.tables e below (T51.setTop (mkF m 184 #[.val (.int g0), .val (.int x0), .val (.int d0), .val (.int (0 : Int32)), .val (.int xx), .val (.int yy), .val (.ref a1), .val (.int (0 : Int32)), .val (.int ((0 : Int32) + (1 : Int32))), .val (.int (((0 : Int32) + (1 : Int32)) + (1 : Int32))), .val (.int (1 : Int32)), .val (.int ((((0 : Int32) + (1 : Int32)) + (1 : Int32)) + (1 : Int32))), .val (.int (((((0 : Int32) + (1 : Int32)) + (1 : Int32)) + (1 : Int32)) + (1 : Int32))), .val (.int ((((((0 : Int32) + (1 : Int32)) + (1 : Int32)) + (1 : Int32)) + (1 : Int32)) + (1 : Int32))), .val (.int (3 : Int32)), .val (.int (4 : Int32)), .val (.int (5 : Int32))] [])) _
      refine XS.iload X51.here hx rfl (hb hby at_184) rfl ?_
      show Steps p.tables e below (T51.setTop (mkF m 186 #[.val (.int g0), .val (.int x0), .val (.int d0), .val (.int (0 : Int32)), .val (.int xx), .val (.int yy), .val (.ref a1), .val (.int (0 : Int32)), .val (.int ((0 : Int32) + (1 : Int32))), .val (.int (((0 : Int32) + (1 : Int32)) + (1 : Int32))), .val (.int (1 : Int32)), .val (.int ((((0 : Int32) + (1 : Int32)) + (1 : Int32)) + (1 : Int32))), .val (.int (((((0 : Int32) + (1 : Int32)) + (1 : Int32)) + (1 : Int32)) + (1 : Int32))), .val (.int ((((((0 : Int32) + (1 : Int32)) + (1 : Int32)) + (1 : Int32)) + (1 : Int32)) + (1 : Int32))), .val (.int (3 : Int32)), .val (.int (4 : Int32)), .val (.int (5 : Int32))] [(.int (((((0 : Int32) + (1 : Int32)) + (1 : Int32)) + (1 : Int32)) + (1 : Int32)))])) _
      refine XS.iload X51.here hx rfl (hb hby at_186) rfl ?_
      show Steps p.tables e below (T51.setTop (mkF m 188 #[.val (.int g0), .val (.int x0), .val (.int d0), .val (.int (0 : Int32)), .val (.int xx), .val (.int yy), .val (.ref a1), .val (.int (0 : Int32)), .val (.int ((0 : Int32) + (1 : Int32))), .val (.int (((0 : Int32) + (1 : Int32)) + (1 : Int32))), .val (.int (1 : Int32)), .val (.int ((((0 : Int32) + (1 : Int32)) + (1 : Int32)) + (1 : Int32))), .val (.int (((((0 : Int32) + (1 : Int32)) + (1 : Int32)) + (1 : Int32)) + (1 : Int32))), .val (.int ((((((0 : Int32) + (1 : Int32)) + (1 : Int32)) + (1 : Int32)) + (1 : Int32)) + (1 : Int32))), .val (.int (3 : Int32)), .val (.int (4 : Int32)), .val (.int (5 : Int32))] [(.int (4 : Int32)), (.int (((((0 : Int32) + (1 : Int32)) + (1 : Int32)) + (1 : Int32)) + (1 : Int32)))])) _
      refine XS.icmpNo X51.here hx rfl (hb hby at_188) rfl (XT.ii_ne_f (by decide)) ?_
      show Steps p.tables e below (T51.setTop (mkF m 191 #[.val (.int g0), .val (.int x0), .val (.int d0), .val (.int (0 : Int32)), .val (.int xx), .val (.int yy), .val (.ref a1), .val (.int (0 : Int32)), .val (.int ((0 : Int32) + (1 : Int32))), .val (.int (((0 : Int32) + (1 : Int32)) + (1 : Int32))), .val (.int (1 : Int32)), .val (.int ((((0 : Int32) + (1 : Int32)) + (1 : Int32)) + (1 : Int32))), .val (.int (((((0 : Int32) + (1 : Int32)) + (1 : Int32)) + (1 : Int32)) + (1 : Int32))), .val (.int ((((((0 : Int32) + (1 : Int32)) + (1 : Int32)) + (1 : Int32)) + (1 : Int32)) + (1 : Int32))), .val (.int (3 : Int32)), .val (.int (4 : Int32)), .val (.int (5 : Int32))] [])) _
      refine XS.iload X51.here hx rfl (hb hby at_191) rfl ?_
      show Steps p.tables e below (T51.setTop (mkF m 193 #[.val (.int g0), .val (.int x0), .val (.int d0), .val (.int (0 : Int32)), .val (.int xx), .val (.int yy), .val (.ref a1), .val (.int (0 : Int32)), .val (.int ((0 : Int32) + (1 : Int32))), .val (.int (((0 : Int32) + (1 : Int32)) + (1 : Int32))), .val (.int (1 : Int32)), .val (.int ((((0 : Int32) + (1 : Int32)) + (1 : Int32)) + (1 : Int32))), .val (.int (((((0 : Int32) + (1 : Int32)) + (1 : Int32)) + (1 : Int32)) + (1 : Int32))), .val (.int ((((((0 : Int32) + (1 : Int32)) + (1 : Int32)) + (1 : Int32)) + (1 : Int32)) + (1 : Int32))), .val (.int (3 : Int32)), .val (.int (4 : Int32)), .val (.int (5 : Int32))] [(.int ((((((0 : Int32) + (1 : Int32)) + (1 : Int32)) + (1 : Int32)) + (1 : Int32)) + (1 : Int32)))])) _
      refine XS.iload X51.here hx rfl (hb hby at_193) rfl ?_
      show Steps p.tables e below (T51.setTop (mkF m 195 #[.val (.int g0), .val (.int x0), .val (.int d0), .val (.int (0 : Int32)), .val (.int xx), .val (.int yy), .val (.ref a1), .val (.int (0 : Int32)), .val (.int ((0 : Int32) + (1 : Int32))), .val (.int (((0 : Int32) + (1 : Int32)) + (1 : Int32))), .val (.int (1 : Int32)), .val (.int ((((0 : Int32) + (1 : Int32)) + (1 : Int32)) + (1 : Int32))), .val (.int (((((0 : Int32) + (1 : Int32)) + (1 : Int32)) + (1 : Int32)) + (1 : Int32))), .val (.int ((((((0 : Int32) + (1 : Int32)) + (1 : Int32)) + (1 : Int32)) + (1 : Int32)) + (1 : Int32))), .val (.int (3 : Int32)), .val (.int (4 : Int32)), .val (.int (5 : Int32))] [(.int (5 : Int32)), (.int ((((((0 : Int32) + (1 : Int32)) + (1 : Int32)) + (1 : Int32)) + (1 : Int32)) + (1 : Int32)))])) _
      refine XS.icmpNo X51.here hx rfl (hb hby at_195) rfl (XT.ii_ne_f (by decide)) ?_
      show Steps p.tables e below (T51.setTop (mkF m 198 #[.val (.int g0), .val (.int x0), .val (.int d0), .val (.int (0 : Int32)), .val (.int xx), .val (.int yy), .val (.ref a1), .val (.int (0 : Int32)), .val (.int ((0 : Int32) + (1 : Int32))), .val (.int (((0 : Int32) + (1 : Int32)) + (1 : Int32))), .val (.int (1 : Int32)), .val (.int ((((0 : Int32) + (1 : Int32)) + (1 : Int32)) + (1 : Int32))), .val (.int (((((0 : Int32) + (1 : Int32)) + (1 : Int32)) + (1 : Int32)) + (1 : Int32))), .val (.int ((((((0 : Int32) + (1 : Int32)) + (1 : Int32)) + (1 : Int32)) + (1 : Int32)) + (1 : Int32))), .val (.int (3 : Int32)), .val (.int (4 : Int32)), .val (.int (5 : Int32))] [])) _
      refine XS.aload X51.here hx rfl (hb hby at_198) rfl rfl ?_
      show Steps p.tables e below (T51.setTop (mkF m 200 #[.val (.int g0), .val (.int x0), .val (.int d0), .val (.int (0 : Int32)), .val (.int xx), .val (.int yy), .val (.ref a1), .val (.int (0 : Int32)), .val (.int ((0 : Int32) + (1 : Int32))), .val (.int (((0 : Int32) + (1 : Int32)) + (1 : Int32))), .val (.int (1 : Int32)), .val (.int ((((0 : Int32) + (1 : Int32)) + (1 : Int32)) + (1 : Int32))), .val (.int (((((0 : Int32) + (1 : Int32)) + (1 : Int32)) + (1 : Int32)) + (1 : Int32))), .val (.int ((((((0 : Int32) + (1 : Int32)) + (1 : Int32)) + (1 : Int32)) + (1 : Int32)) + (1 : Int32))), .val (.int (3 : Int32)), .val (.int (4 : Int32)), .val (.int (5 : Int32))] [(.ref a1)])) _
      exact k
    obtain ⟨cq57, kq57, q57a, q57b, q57c⟩ := isOf hZ e51 E53_0
    obtain ⟨_, _, ⟨T57, L57, k57, n57⟩, -, X57, ⟨Lc57, hQ57, l57, y57, z57⟩, st57⟩ := X51.virtualBack hx (y := (⟨"com/example/hasselt/hasselt/storage/Numbers", "limit", "()I"⟩ : MethodName)) (z := (⟨"com/example/hasselt/hasselt/storage/Numbers", "limit", "()I"⟩ : MethodName)) hown (mvT hZ (hw _ (List.mem_of_getElem? (i := 22) rfl))) (mvT hZ (hw _ (List.mem_of_getElem? (i := 23) rfl))) (notFace_of_selects (args := #[]) (mvT hZ (hw _ (List.mem_of_getElem? (i := 25) rfl)))) (mvT hZ (hw _ (List.mem_of_getElem? (i := 25) rfl))) (mvT hZ (hw _ (List.mem_of_getElem? (i := 24) rfl))) (by decide) (backOf (W := 0) (rm4 l Z a0 hw [] a1 fa (0 : Int32) (((((((0 : Int32) + (1 : Int32)) + (1 : Int32)) + (1 : Int32)) + (1 : Int32)) + (1 : Int32)) + (1 : Int32)) h51 n0 Z53 Fa51 Fb51 Fc51) hZ (hw _ (List.mem_of_getElem? (i := 26) rfl)) (hw _ (List.mem_of_getElem? (i := 3) rfl)) (by decide) (by decide)) q57a q57c (g := (mkF m 200 #[.val (.int g0), .val (.int x0), .val (.int d0), .val (.int (0 : Int32)), .val (.int xx), .val (.int yy), .val (.ref a1), .val (.int (0 : Int32)), .val (.int ((0 : Int32) + (1 : Int32))), .val (.int (((0 : Int32) + (1 : Int32)) + (1 : Int32))), .val (.int (1 : Int32)), .val (.int ((((0 : Int32) + (1 : Int32)) + (1 : Int32)) + (1 : Int32))), .val (.int (((((0 : Int32) + (1 : Int32)) + (1 : Int32)) + (1 : Int32)) + (1 : Int32))), .val (.int ((((((0 : Int32) + (1 : Int32)) + (1 : Int32)) + (1 : Int32)) + (1 : Int32)) + (1 : Int32))), .val (.int (3 : Int32)), .val (.int (4 : Int32)), .val (.int (5 : Int32))] [(.ref a1)])) rfl (by rw [hml]; rfl) (Steps.refl _) (argsL := []) (rest := []) (lenOf pd_i rfl) rfl (by show 2 * 0 + _ ≤ _; exact Nat.le_of_eq rfl) (hb hby at_200) (fun _ _ => ⟨rfl, e51, (by decide : 2 + 0 ≤ _), (by decide : 11 + 0 ≤ _)⟩)
    dsimp only [Pt.U, Pt.locs, Pt.cells, Pt.slots] at X57 l57 y57 z57 st57 hQ57
    subst l57 y57 z57
    obtain ⟨rfl, Nq57, heq57⟩ := hQ57
    have N57 := Fr.app N51 Nq57
    have pre58 : ∀ t, Steps p.tables e below (T57.setTop (mkF m 203 #[.val (.int g0), .val (.int x0), .val (.int d0), .val (.int (0 : Int32)), .val (.int xx), .val (.int yy), .val (.ref a1), .val (.int (0 : Int32)), .val (.int ((0 : Int32) + (1 : Int32))), .val (.int (((0 : Int32) + (1 : Int32)) + (1 : Int32))), .val (.int (1 : Int32)), .val (.int ((((0 : Int32) + (1 : Int32)) + (1 : Int32)) + (1 : Int32))), .val (.int (((((0 : Int32) + (1 : Int32)) + (1 : Int32)) + (1 : Int32)) + (1 : Int32))), .val (.int ((((((0 : Int32) + (1 : Int32)) + (1 : Int32)) + (1 : Int32)) + (1 : Int32)) + (1 : Int32))), .val (.int (3 : Int32)), .val (.int (4 : Int32)), .val (.int (5 : Int32))] [(.int (((((((0 : Int32) + (1 : Int32)) + (1 : Int32)) + (1 : Int32)) + (1 : Int32)) + (1 : Int32)) + (1 : Int32)))])) t → Steps p.tables e below (s₁.setTop (entryFrame m #[(.int g0), (.int x0), (.int d0)] maxLocals)) t := fun t k => pre55 t (st57.trans k)
    have pre59 : ∀ t, Steps p.tables e below (T57.setTop (mkF m 215 #[.val (.int g0), .val (.int x0), .val (.int d0), .val (.int (0 : Int32)), .val (.int xx), .val (.int yy), .val (.ref a1), .val (.int (0 : Int32)), .val (.int ((0 : Int32) + (1 : Int32))), .val (.int (((0 : Int32) + (1 : Int32)) + (1 : Int32))), .val (.int (1 : Int32)), .val (.int ((((0 : Int32) + (1 : Int32)) + (1 : Int32)) + (1 : Int32))), .val (.int (((((0 : Int32) + (1 : Int32)) + (1 : Int32)) + (1 : Int32)) + (1 : Int32))), .val (.int ((((((0 : Int32) + (1 : Int32)) + (1 : Int32)) + (1 : Int32)) + (1 : Int32)) + (1 : Int32))), .val (.int (3 : Int32)), .val (.int (4 : Int32)), .val (.int (5 : Int32))] [(.int (1 : Int32))])) t → Steps p.tables e below (s₁.setTop (entryFrame m #[(.int g0), (.int x0), (.int d0)] maxLocals)) t := by
      intro t k
      refine pre58 t ?_
      refine XS.bipush X57.here hx rfl (hb hby at_203) ?_
      show Steps p.tables e below (T57.setTop (mkF m 205 #[.val (.int g0), .val (.int x0), .val (.int d0), .val (.int (0 : Int32)), .val (.int xx), .val (.int yy), .val (.ref a1), .val (.int (0 : Int32)), .val (.int ((0 : Int32) + (1 : Int32))), .val (.int (((0 : Int32) + (1 : Int32)) + (1 : Int32))), .val (.int (1 : Int32)), .val (.int ((((0 : Int32) + (1 : Int32)) + (1 : Int32)) + (1 : Int32))), .val (.int (((((0 : Int32) + (1 : Int32)) + (1 : Int32)) + (1 : Int32)) + (1 : Int32))), .val (.int ((((((0 : Int32) + (1 : Int32)) + (1 : Int32)) + (1 : Int32)) + (1 : Int32)) + (1 : Int32))), .val (.int (3 : Int32)), .val (.int (4 : Int32)), .val (.int (5 : Int32))] [(.int (6 : Int32)), (.int (((((((0 : Int32) + (1 : Int32)) + (1 : Int32)) + (1 : Int32)) + (1 : Int32)) + (1 : Int32)) + (1 : Int32)))])) _
      refine XS.iloadN X57.here hx rfl (hb hby at_205) rfl ?_
      show Steps p.tables e below (T57.setTop (mkF m 206 #[.val (.int g0), .val (.int x0), .val (.int d0), .val (.int (0 : Int32)), .val (.int xx), .val (.int yy), .val (.ref a1), .val (.int (0 : Int32)), .val (.int ((0 : Int32) + (1 : Int32))), .val (.int (((0 : Int32) + (1 : Int32)) + (1 : Int32))), .val (.int (1 : Int32)), .val (.int ((((0 : Int32) + (1 : Int32)) + (1 : Int32)) + (1 : Int32))), .val (.int (((((0 : Int32) + (1 : Int32)) + (1 : Int32)) + (1 : Int32)) + (1 : Int32))), .val (.int ((((((0 : Int32) + (1 : Int32)) + (1 : Int32)) + (1 : Int32)) + (1 : Int32)) + (1 : Int32))), .val (.int (3 : Int32)), .val (.int (4 : Int32)), .val (.int (5 : Int32))] [(.int (0 : Int32)), (.int (6 : Int32)), (.int (((((((0 : Int32) + (1 : Int32)) + (1 : Int32)) + (1 : Int32)) + (1 : Int32)) + (1 : Int32)) + (1 : Int32)))])) _
      refine XS.isub X57.here hx rfl (hb hby at_206) rfl ?_
      show Steps p.tables e below (T57.setTop (mkF m 207 #[.val (.int g0), .val (.int x0), .val (.int d0), .val (.int (0 : Int32)), .val (.int xx), .val (.int yy), .val (.ref a1), .val (.int (0 : Int32)), .val (.int ((0 : Int32) + (1 : Int32))), .val (.int (((0 : Int32) + (1 : Int32)) + (1 : Int32))), .val (.int (1 : Int32)), .val (.int ((((0 : Int32) + (1 : Int32)) + (1 : Int32)) + (1 : Int32))), .val (.int (((((0 : Int32) + (1 : Int32)) + (1 : Int32)) + (1 : Int32)) + (1 : Int32))), .val (.int ((((((0 : Int32) + (1 : Int32)) + (1 : Int32)) + (1 : Int32)) + (1 : Int32)) + (1 : Int32))), .val (.int (3 : Int32)), .val (.int (4 : Int32)), .val (.int (5 : Int32))] [(.int ((6 : Int32) - (0 : Int32))), (.int (((((((0 : Int32) + (1 : Int32)) + (1 : Int32)) + (1 : Int32)) + (1 : Int32)) + (1 : Int32)) + (1 : Int32)))])) _
      refine XS.icmpNo X57.here hx rfl (hb hby at_207) rfl (XT.ii_ne_f (by decide)) ?_
      show Steps p.tables e below (T57.setTop (mkF m 210 #[.val (.int g0), .val (.int x0), .val (.int d0), .val (.int (0 : Int32)), .val (.int xx), .val (.int yy), .val (.ref a1), .val (.int (0 : Int32)), .val (.int ((0 : Int32) + (1 : Int32))), .val (.int (((0 : Int32) + (1 : Int32)) + (1 : Int32))), .val (.int (1 : Int32)), .val (.int ((((0 : Int32) + (1 : Int32)) + (1 : Int32)) + (1 : Int32))), .val (.int (((((0 : Int32) + (1 : Int32)) + (1 : Int32)) + (1 : Int32)) + (1 : Int32))), .val (.int ((((((0 : Int32) + (1 : Int32)) + (1 : Int32)) + (1 : Int32)) + (1 : Int32)) + (1 : Int32))), .val (.int (3 : Int32)), .val (.int (4 : Int32)), .val (.int (5 : Int32))] [])) _
      refine XS.iconst X57.here hx rfl (hb hby at_210) ?_
      show Steps p.tables e below (T57.setTop (mkF m 211 #[.val (.int g0), .val (.int x0), .val (.int d0), .val (.int (0 : Int32)), .val (.int xx), .val (.int yy), .val (.ref a1), .val (.int (0 : Int32)), .val (.int ((0 : Int32) + (1 : Int32))), .val (.int (((0 : Int32) + (1 : Int32)) + (1 : Int32))), .val (.int (1 : Int32)), .val (.int ((((0 : Int32) + (1 : Int32)) + (1 : Int32)) + (1 : Int32))), .val (.int (((((0 : Int32) + (1 : Int32)) + (1 : Int32)) + (1 : Int32)) + (1 : Int32))), .val (.int ((((((0 : Int32) + (1 : Int32)) + (1 : Int32)) + (1 : Int32)) + (1 : Int32)) + (1 : Int32))), .val (.int (3 : Int32)), .val (.int (4 : Int32)), .val (.int (5 : Int32))] [(.int (1 : Int32))])) _
      refine XS.goto X57.here hx rfl (pc0 := 211) (pc' := 215) rfl (hb hby at_211) (by decide) (by decide) ?_
      show Steps p.tables e below (T57.setTop (mkF m 215 #[.val (.int g0), .val (.int x0), .val (.int d0), .val (.int (0 : Int32)), .val (.int xx), .val (.int yy), .val (.ref a1), .val (.int (0 : Int32)), .val (.int ((0 : Int32) + (1 : Int32))), .val (.int (((0 : Int32) + (1 : Int32)) + (1 : Int32))), .val (.int (1 : Int32)), .val (.int ((((0 : Int32) + (1 : Int32)) + (1 : Int32)) + (1 : Int32))), .val (.int (((((0 : Int32) + (1 : Int32)) + (1 : Int32)) + (1 : Int32)) + (1 : Int32))), .val (.int ((((((0 : Int32) + (1 : Int32)) + (1 : Int32)) + (1 : Int32)) + (1 : Int32)) + (1 : Int32))), .val (.int (3 : Int32)), .val (.int (4 : Int32)), .val (.int (5 : Int32))] [(.int (1 : Int32))])) _
      exact k
    obtain ⟨fs, hr, hrun, hended, hW, hsame⟩ := X57.leave (v := some (.int (1 : Int32))) (fun h => by rw [Bd.returns] at h; cases h)
    refine ⟨_, _, pre59 _ ?_, hrun, hended, _, _, rfl, ?_, ⟨_, rfl⟩, hW, hsame.mono (by decide) (by decide)⟩
    · exact retOut X57 hx Bd.returns rfl (Or.inl ⟨rfl, by simp, _, rfl⟩) (hb hby at_215) hr
    · show Qlaw Z g0 x0 d0 h0 n0 _ T57.heap _
      rw [heq57]
      exact ⟨rfl, N57⟩
  · subst hq
    have pre62 : ∀ t, Steps p.tables e below (T32.setTop (mkF m 90 #[.val (.int g0), .val (.int x0), .val (.int d0), .val (.int (1 : Int32)), .val (.int xx), .val (.int yy), .val (.ref a1), .val (.int (0 : Int32)), .val (.int ((0 : Int32) + (1 : Int32))), .val (.int (((0 : Int32) + (1 : Int32)) + (1 : Int32))), .val (.int (1 : Int32)), .unset, .unset, .unset, .unset, .unset, .unset] [(.int xx), (.ref a1)])) t → Steps p.tables e below (s₁.setTop (entryFrame m #[(.int g0), (.int x0), (.int d0)] maxLocals)) t := by
      intro t k
      refine pre35 t ?_
      refine XS.icmpNo X32.here hx rfl (hb hby at_83) rfl (XT.ii_lt_f (by decide)) ?_
      show Steps p.tables e below (T32.setTop (mkF m 86 #[.val (.int g0), .val (.int x0), .val (.int d0), .val (.int (1 : Int32)), .val (.int xx), .val (.int yy), .val (.ref a1), .val (.int (0 : Int32)), .val (.int ((0 : Int32) + (1 : Int32))), .val (.int (((0 : Int32) + (1 : Int32)) + (1 : Int32))), .val (.int (1 : Int32)), .unset, .unset, .unset, .unset, .unset, .unset] [])) _
      refine XS.aload X32.here hx rfl (hb hby at_86) rfl rfl ?_
      show Steps p.tables e below (T32.setTop (mkF m 88 #[.val (.int g0), .val (.int x0), .val (.int d0), .val (.int (1 : Int32)), .val (.int xx), .val (.int yy), .val (.ref a1), .val (.int (0 : Int32)), .val (.int ((0 : Int32) + (1 : Int32))), .val (.int (((0 : Int32) + (1 : Int32)) + (1 : Int32))), .val (.int (1 : Int32)), .unset, .unset, .unset, .unset, .unset, .unset] [(.ref a1)])) _
      refine XS.iload X32.here hx rfl (hb hby at_88) rfl ?_
      show Steps p.tables e below (T32.setTop (mkF m 90 #[.val (.int g0), .val (.int x0), .val (.int d0), .val (.int (1 : Int32)), .val (.int xx), .val (.int yy), .val (.ref a1), .val (.int (0 : Int32)), .val (.int ((0 : Int32) + (1 : Int32))), .val (.int (((0 : Int32) + (1 : Int32)) + (1 : Int32))), .val (.int (1 : Int32)), .unset, .unset, .unset, .unset, .unset, .unset] [(.int xx), (.ref a1)])) _
      exact k
    obtain ⟨cq64, kq64, q64a, q64b, q64c⟩ := isOf hZ e32 E34_0
    obtain ⟨_, _, ⟨T64, L64, k64, n64⟩, -, X64, ⟨Lc64, hQ64, l64, y64, z64⟩, st64⟩ := X32.virtualBack hx (y := (⟨"com/example/hasselt/hasselt/storage/Numbers", "giveBack", "(I)V"⟩ : MethodName)) (z := (⟨"com/example/hasselt/hasselt/storage/Numbers", "giveBack", "(I)V"⟩ : MethodName)) hown (mvT hZ (hw _ (List.mem_of_getElem? (i := 27) rfl))) (mvT hZ (hw _ (List.mem_of_getElem? (i := 28) rfl))) (notFace_of_selects (args := #[]) (mvT hZ (hw _ (List.mem_of_getElem? (i := 30) rfl)))) (mvT hZ (hw _ (List.mem_of_getElem? (i := 30) rfl))) (mvT hZ (hw _ (List.mem_of_getElem? (i := 29) rfl))) (by decide) (backOf (W := 0) (rm5 l Z a0 hw [] a1 xx fa (0 : Int32) ((((0 : Int32) + (1 : Int32)) + (1 : Int32)) + (1 : Int32)) kk [(.int (0 : Int32)), (.int (0 : Int32)), (.int (0 : Int32)), (.int (0 : Int32)), (.int (0 : Int32)), (.int (0 : Int32)), (.int (0 : Int32)), (.int (0 : Int32))] 0 h32 n0 Z34 E34_0 g_a1 Fa32 Fb32 Fc32 V34_0 ne_a1_fa g_fa (by decide) (by decide) (by decide) (by decide : 0 < 8)) hZ (hw _ (List.mem_of_getElem? (i := 31) rfl)) (hw _ (List.mem_of_getElem? (i := 3) rfl)) (by decide) (by decide)) q64a q64c (g := (mkF m 90 #[.val (.int g0), .val (.int x0), .val (.int d0), .val (.int (1 : Int32)), .val (.int xx), .val (.int yy), .val (.ref a1), .val (.int (0 : Int32)), .val (.int ((0 : Int32) + (1 : Int32))), .val (.int (((0 : Int32) + (1 : Int32)) + (1 : Int32))), .val (.int (1 : Int32)), .unset, .unset, .unset, .unset, .unset, .unset] [(.int xx), (.ref a1)])) rfl (by rw [hml]; rfl) (Steps.refl _) (argsL := [(.int xx)]) (rest := []) (lenOf pd_give rfl) rfl (by show 2 * 0 + _ ≤ _; exact Nat.le_of_eq rfl) (hb hby at_90) (fun _ _ => ⟨rfl, e32, (by decide : 2 + 0 ≤ _), (by decide : 11 + 0 ≤ _)⟩)
    dsimp only [Pt.U, Pt.locs, Pt.cells, Pt.slots] at X64 l64 y64 z64 st64 hQ64
    subst l64 y64 z64
    obtain ⟨rfl, Nq64, Kq64, Fa64, Fb64, Fc64, Va64⟩ := hQ64
    have N64 := Fr.app N32 Nq64
    have pre65 : ∀ t, Steps p.tables e below (T64.setTop (mkF m 93 #[.val (.int g0), .val (.int x0), .val (.int d0), .val (.int (1 : Int32)), .val (.int xx), .val (.int yy), .val (.ref a1), .val (.int (0 : Int32)), .val (.int ((0 : Int32) + (1 : Int32))), .val (.int (((0 : Int32) + (1 : Int32)) + (1 : Int32))), .val (.int (1 : Int32)), .unset, .unset, .unset, .unset, .unset, .unset] [])) t → Steps p.tables e below (s₁.setTop (entryFrame m #[(.int g0), (.int x0), (.int d0)] maxLocals)) t := fun t k => pre62 t (st64.trans k)
    obtain ⟨h64, e64⟩ : ∃ z, T64.heap = z := ⟨_, rfl⟩
    rw [e64] at Kq64 Fa64 Fb64 Fc64 Va64
    have Vb64 : Arv Z h64 fa kk .int (8 : Int32) [(.int xx), (.int (0 : Int32)), (.int (0 : Int32)), (.int (0 : Int32)), (.int (0 : Int32)), (.int (0 : Int32)), (.int (0 : Int32)), (.int (0 : Int32))] (.int (0 : Int32)) := Va64
    have E66_0 : Exa Z h64 a1 "com/example/hasselt/hasselt/storage/Numbers" := (E34_0.keep Kq64)
    have Z66 : n0 ≤ h64.size := (Nat.le_trans Z34 Kq64.1)
    have pre68 : ∀ t, Steps p.tables e below (T64.setTop (mkF m 107 #[.val (.int g0), .val (.int x0), .val (.int d0), .val (.int (1 : Int32)), .val (.int xx), .val (.int yy), .val (.ref a1), .val (.int (0 : Int32)), .val (.int ((0 : Int32) + (1 : Int32))), .val (.int (((0 : Int32) + (1 : Int32)) + (1 : Int32))), .val (.int (1 : Int32)), .unset, .unset, .unset, .unset, .unset, .unset] [(.ref a1)])) t → Steps p.tables e below (s₁.setTop (entryFrame m #[(.int g0), (.int x0), (.int d0)] maxLocals)) t := by
      intro t k
      refine pre65 t ?_
      refine XS.iloadN X64.here hx rfl (hb hby at_93) rfl ?_
      show Steps p.tables e below (T64.setTop (mkF m 94 #[.val (.int g0), .val (.int x0), .val (.int d0), .val (.int (1 : Int32)), .val (.int xx), .val (.int yy), .val (.ref a1), .val (.int (0 : Int32)), .val (.int ((0 : Int32) + (1 : Int32))), .val (.int (((0 : Int32) + (1 : Int32)) + (1 : Int32))), .val (.int (1 : Int32)), .unset, .unset, .unset, .unset, .unset, .unset] [(.int (1 : Int32))])) _
      refine XS.iconst X64.here hx rfl (hb hby at_94) ?_
      show Steps p.tables e below (T64.setTop (mkF m 95 #[.val (.int g0), .val (.int x0), .val (.int d0), .val (.int (1 : Int32)), .val (.int xx), .val (.int yy), .val (.ref a1), .val (.int (0 : Int32)), .val (.int ((0 : Int32) + (1 : Int32))), .val (.int (((0 : Int32) + (1 : Int32)) + (1 : Int32))), .val (.int (1 : Int32)), .unset, .unset, .unset, .unset, .unset, .unset] [(.int (2 : Int32)), (.int (1 : Int32))])) _
      refine XS.icmpYes X64.here hx rfl (pc0 := 95) (pc' := 105) rfl (hb hby at_95) rfl (XT.ii_ne_t (by decide)) (by decide) (by decide) ?_
      show Steps p.tables e below (T64.setTop (mkF m 105 #[.val (.int g0), .val (.int x0), .val (.int d0), .val (.int (1 : Int32)), .val (.int xx), .val (.int yy), .val (.ref a1), .val (.int (0 : Int32)), .val (.int ((0 : Int32) + (1 : Int32))), .val (.int (((0 : Int32) + (1 : Int32)) + (1 : Int32))), .val (.int (1 : Int32)), .unset, .unset, .unset, .unset, .unset, .unset] [])) _
      refine XS.aload X64.here hx rfl (hb hby at_105) rfl rfl ?_
      show Steps p.tables e below (T64.setTop (mkF m 107 #[.val (.int g0), .val (.int x0), .val (.int d0), .val (.int (1 : Int32)), .val (.int xx), .val (.int yy), .val (.ref a1), .val (.int (0 : Int32)), .val (.int ((0 : Int32) + (1 : Int32))), .val (.int (((0 : Int32) + (1 : Int32)) + (1 : Int32))), .val (.int (1 : Int32)), .unset, .unset, .unset, .unset, .unset, .unset] [(.ref a1)])) _
      exact k
    obtain ⟨cq70, kq70, q70a, q70b, q70c⟩ := isOf hZ e64 E66_0
    obtain ⟨_, _, ⟨T70, L70, k70, n70⟩, -, X70, ⟨Lc70, hQ70, l70, y70, z70⟩, st70⟩ := X64.virtualBack hx (y := (⟨"com/example/hasselt/hasselt/storage/Numbers", "take", "()I"⟩ : MethodName)) (z := (⟨"com/example/hasselt/hasselt/storage/Numbers", "take", "()I"⟩ : MethodName)) hown (mvT hZ (hw _ (List.mem_of_getElem? (i := 13) rfl))) (mvT hZ (hw _ (List.mem_of_getElem? (i := 14) rfl))) (notFace_of_selects (args := #[]) (mvT hZ (hw _ (List.mem_of_getElem? (i := 16) rfl)))) (mvT hZ (hw _ (List.mem_of_getElem? (i := 16) rfl))) (mvT hZ (hw _ (List.mem_of_getElem? (i := 15) rfl))) (by decide) (backOf (W := 0) (rm3b l Z a0 hw [] a1 fa ((0 : Int32) + (1 : Int32)) ((((0 : Int32) + (1 : Int32)) + (1 : Int32)) + (1 : Int32)) kk [(.int xx), (.int (0 : Int32)), (.int (0 : Int32)), (.int (0 : Int32)), (.int (0 : Int32)), (.int (0 : Int32)), (.int (0 : Int32)), (.int (0 : Int32))] xx h64 n0 Z66 E66_0 g_a1 Fa64 Fb64 Fc64 Vb64 ne_a1_fa (by decide) (by decide) rfl) hZ (hw _ (List.mem_of_getElem? (i := 17) rfl)) (hw _ (List.mem_of_getElem? (i := 3) rfl)) (by decide) (by decide)) q70a q70c (g := (mkF m 107 #[.val (.int g0), .val (.int x0), .val (.int d0), .val (.int (1 : Int32)), .val (.int xx), .val (.int yy), .val (.ref a1), .val (.int (0 : Int32)), .val (.int ((0 : Int32) + (1 : Int32))), .val (.int (((0 : Int32) + (1 : Int32)) + (1 : Int32))), .val (.int (1 : Int32)), .unset, .unset, .unset, .unset, .unset, .unset] [(.ref a1)])) rfl (by rw [hml]; rfl) (Steps.refl _) (argsL := []) (rest := []) (lenOf pd_i rfl) rfl (by show 2 * 0 + _ ≤ _; exact Nat.le_of_eq rfl) (hb hby at_107) (fun _ _ => ⟨rfl, e64, (by decide : 2 + 0 ≤ _), (by decide : 11 + 0 ≤ _)⟩)
    dsimp only [Pt.U, Pt.locs, Pt.cells, Pt.slots] at X70 l70 y70 z70 st70 hQ70
    subst l70 y70 z70
    obtain ⟨rfl, Nq70, Kq70, Fa70, Fb70, Fc70⟩ := hQ70
    have N70 := Fr.app N64 Nq70
    have pre71 : ∀ t, Steps p.tables e below (T70.setTop (mkF m 110 #[.val (.int g0), .val (.int x0), .val (.int d0), .val (.int (1 : Int32)), .val (.int xx), .val (.int yy), .val (.ref a1), .val (.int (0 : Int32)), .val (.int ((0 : Int32) + (1 : Int32))), .val (.int (((0 : Int32) + (1 : Int32)) + (1 : Int32))), .val (.int (1 : Int32)), .unset, .unset, .unset, .unset, .unset, .unset] [(.int xx)])) t → Steps p.tables e below (s₁.setTop (entryFrame m #[(.int g0), (.int x0), (.int d0)] maxLocals)) t := fun t k => pre68 t (st70.trans k)
    obtain ⟨h70, e70⟩ : ∃ z, T70.heap = z := ⟨_, rfl⟩
    rw [e70] at Kq70 Fa70 Fb70 Fc70
    have E72_0 : Exa Z h70 a1 "com/example/hasselt/hasselt/storage/Numbers" := (E66_0.keep Kq70)
    have V72_0 : Arv Z h70 fa kk .int (8 : Int32) [(.int xx), (.int (0 : Int32)), (.int (0 : Int32)), (.int (0 : Int32)), (.int (0 : Int32)), (.int (0 : Int32)), (.int (0 : Int32)), (.int (0 : Int32))] (.int (0 : Int32)) := (Vb64.keep Kq70 (ninS ne_a1_fa.symm nin0))
    have Z72 : n0 ≤ h70.size := (Nat.le_trans Z66 Kq70.1)
    have pre74 : ∀ t, Steps p.tables e below (T70.setTop (mkF m 114 #[.val (.int g0), .val (.int x0), .val (.int d0), .val (.int (1 : Int32)), .val (.int xx), .val (.int yy), .val (.ref a1), .val (.int (0 : Int32)), .val (.int ((0 : Int32) + (1 : Int32))), .val (.int (((0 : Int32) + (1 : Int32)) + (1 : Int32))), .val (.int (1 : Int32)), .val (.int xx), .unset, .unset, .unset, .unset, .unset] [(.ref a1)])) t → Steps p.tables e below (s₁.setTop (entryFrame m #[(.int g0), (.int x0), (.int d0)] maxLocals)) t := by
      intro t k
      refine pre71 t ?_
      refine XS.istore X70.here hx rfl (hb hby at_110) rfl (l' := #[.val (.int g0), .val (.int x0), .val (.int d0), .val (.int (1 : Int32)), .val (.int xx), .val (.int yy), .val (.ref a1), .val (.int (0 : Int32)), .val (.int ((0 : Int32) + (1 : Int32))), .val (.int (((0 : Int32) + (1 : Int32)) + (1 : Int32))), .val (.int (1 : Int32)), .val (.int xx), .unset, .unset, .unset, .unset, .unset]) rfl ?_
      show Steps p.tables e below (T70.setTop (mkF m 112 #[.val (.int g0), .val (.int x0), .val (.int d0), .val (.int (1 : Int32)), .val (.int xx), .val (.int yy), .val (.ref a1), .val (.int (0 : Int32)), .val (.int ((0 : Int32) + (1 : Int32))), .val (.int (((0 : Int32) + (1 : Int32)) + (1 : Int32))), .val (.int (1 : Int32)), .val (.int xx), .unset, .unset, .unset, .unset, .unset] [])) _
      refine XS.aload X70.here hx rfl (hb hby at_112) rfl rfl ?_
      show Steps p.tables e below (T70.setTop (mkF m 114 #[.val (.int g0), .val (.int x0), .val (.int d0), .val (.int (1 : Int32)), .val (.int xx), .val (.int yy), .val (.ref a1), .val (.int (0 : Int32)), .val (.int ((0 : Int32) + (1 : Int32))), .val (.int (((0 : Int32) + (1 : Int32)) + (1 : Int32))), .val (.int (1 : Int32)), .val (.int xx), .unset, .unset, .unset, .unset, .unset] [(.ref a1)])) _
      exact k
    obtain ⟨cq76, kq76, q76a, q76b, q76c⟩ := isOf hZ e70 E72_0
    obtain ⟨_, _, ⟨T76, L76, k76, n76⟩, -, X76, ⟨Lc76, hQ76, l76, y76, z76⟩, st76⟩ := X70.virtualBack hx (y := (⟨"com/example/hasselt/hasselt/storage/Numbers", "take", "()I"⟩ : MethodName)) (z := (⟨"com/example/hasselt/hasselt/storage/Numbers", "take", "()I"⟩ : MethodName)) hown (mvT hZ (hw _ (List.mem_of_getElem? (i := 13) rfl))) (mvT hZ (hw _ (List.mem_of_getElem? (i := 14) rfl))) (notFace_of_selects (args := #[]) (mvT hZ (hw _ (List.mem_of_getElem? (i := 16) rfl)))) (mvT hZ (hw _ (List.mem_of_getElem? (i := 16) rfl))) (mvT hZ (hw _ (List.mem_of_getElem? (i := 15) rfl))) (by decide) (backOf (W := 0) (rm3a l Z a0 hw [] a1 fa (((0 : Int32) + (1 : Int32)) - (1 : Int32)) ((((0 : Int32) + (1 : Int32)) + (1 : Int32)) + (1 : Int32)) h70 n0 Z72 E72_0 g_a1 Fa70 Fb70 Fc70 (by decide)) hZ (hw _ (List.mem_of_getElem? (i := 17) rfl)) (hw _ (List.mem_of_getElem? (i := 3) rfl)) (by decide) (by decide)) q76a q76c (g := (mkF m 114 #[.val (.int g0), .val (.int x0), .val (.int d0), .val (.int (1 : Int32)), .val (.int xx), .val (.int yy), .val (.ref a1), .val (.int (0 : Int32)), .val (.int ((0 : Int32) + (1 : Int32))), .val (.int (((0 : Int32) + (1 : Int32)) + (1 : Int32))), .val (.int (1 : Int32)), .val (.int xx), .unset, .unset, .unset, .unset, .unset] [(.ref a1)])) rfl (by rw [hml]; rfl) (Steps.refl _) (argsL := []) (rest := []) (lenOf pd_i rfl) rfl (by show 2 * 0 + _ ≤ _; exact Nat.le_of_eq rfl) (hb hby at_114) (fun _ _ => ⟨rfl, e70, (by decide : 2 + 0 ≤ _), (by decide : 11 + 0 ≤ _)⟩)
    dsimp only [Pt.U, Pt.locs, Pt.cells, Pt.slots] at X76 l76 y76 z76 st76 hQ76
    subst l76 y76 z76
    obtain ⟨rfl, Nq76, Kq76, Fa76, Fb76, Fc76⟩ := hQ76
    have N76 := Fr.app N70 Nq76
    have pre77 : ∀ t, Steps p.tables e below (T76.setTop (mkF m 117 #[.val (.int g0), .val (.int x0), .val (.int d0), .val (.int (1 : Int32)), .val (.int xx), .val (.int yy), .val (.ref a1), .val (.int (0 : Int32)), .val (.int ((0 : Int32) + (1 : Int32))), .val (.int (((0 : Int32) + (1 : Int32)) + (1 : Int32))), .val (.int (1 : Int32)), .val (.int xx), .unset, .unset, .unset, .unset, .unset] [(.int ((((0 : Int32) + (1 : Int32)) + (1 : Int32)) + (1 : Int32)))])) t → Steps p.tables e below (s₁.setTop (entryFrame m #[(.int g0), (.int x0), (.int d0)] maxLocals)) t := fun t k => pre74 t (st76.trans k)
    obtain ⟨h76, e76⟩ : ∃ z, T76.heap = z := ⟨_, rfl⟩
    rw [e76] at Kq76 Fa76 Fb76 Fc76
    have E78_0 : Exa Z h76 a1 "com/example/hasselt/hasselt/storage/Numbers" := (E72_0.keep Kq76)
    have V78_0 : Arv Z h76 fa kk .int (8 : Int32) [(.int xx), (.int (0 : Int32)), (.int (0 : Int32)), (.int (0 : Int32)), (.int (0 : Int32)), (.int (0 : Int32)), (.int (0 : Int32)), (.int (0 : Int32))] (.int (0 : Int32)) := (V72_0.keep Kq76 (ninS ne_a1_fa.symm nin0))
    have Z78 : n0 ≤ h76.size := (Nat.le_trans Z72 Kq76.1)
    have pre80 : ∀ t, Steps p.tables e below (T76.setTop (mkF m 121 #[.val (.int g0), .val (.int x0), .val (.int d0), .val (.int (1 : Int32)), .val (.int xx), .val (.int yy), .val (.ref a1), .val (.int (0 : Int32)), .val (.int ((0 : Int32) + (1 : Int32))), .val (.int (((0 : Int32) + (1 : Int32)) + (1 : Int32))), .val (.int (1 : Int32)), .val (.int xx), .val (.int ((((0 : Int32) + (1 : Int32)) + (1 : Int32)) + (1 : Int32))), .unset, .unset, .unset, .unset] [(.ref a1)])) t → Steps p.tables e below (s₁.setTop (entryFrame m #[(.int g0), (.int x0), (.int d0)] maxLocals)) t := by
      intro t k
      refine pre77 t ?_
      refine XS.istore X76.here hx rfl (hb hby at_117) rfl (l' := #[.val (.int g0), .val (.int x0), .val (.int d0), .val (.int (1 : Int32)), .val (.int xx), .val (.int yy), .val (.ref a1), .val (.int (0 : Int32)), .val (.int ((0 : Int32) + (1 : Int32))), .val (.int (((0 : Int32) + (1 : Int32)) + (1 : Int32))), .val (.int (1 : Int32)), .val (.int xx), .val (.int ((((0 : Int32) + (1 : Int32)) + (1 : Int32)) + (1 : Int32))), .unset, .unset, .unset, .unset]) rfl ?_
      show Steps p.tables e below (T76.setTop (mkF m 119 #[.val (.int g0), .val (.int x0), .val (.int d0), .val (.int (1 : Int32)), .val (.int xx), .val (.int yy), .val (.ref a1), .val (.int (0 : Int32)), .val (.int ((0 : Int32) + (1 : Int32))), .val (.int (((0 : Int32) + (1 : Int32)) + (1 : Int32))), .val (.int (1 : Int32)), .val (.int xx), .val (.int ((((0 : Int32) + (1 : Int32)) + (1 : Int32)) + (1 : Int32))), .unset, .unset, .unset, .unset] [])) _
      refine XS.aload X76.here hx rfl (hb hby at_119) rfl rfl ?_
      show Steps p.tables e below (T76.setTop (mkF m 121 #[.val (.int g0), .val (.int x0), .val (.int d0), .val (.int (1 : Int32)), .val (.int xx), .val (.int yy), .val (.ref a1), .val (.int (0 : Int32)), .val (.int ((0 : Int32) + (1 : Int32))), .val (.int (((0 : Int32) + (1 : Int32)) + (1 : Int32))), .val (.int (1 : Int32)), .val (.int xx), .val (.int ((((0 : Int32) + (1 : Int32)) + (1 : Int32)) + (1 : Int32))), .unset, .unset, .unset, .unset] [(.ref a1)])) _
      exact k
    obtain ⟨cq82, kq82, q82a, q82b, q82c⟩ := isOf hZ e76 E78_0
    obtain ⟨_, _, ⟨T82, L82, k82, n82⟩, -, X82, ⟨Lc82, hQ82, l82, y82, z82⟩, st82⟩ := X76.virtualBack hx (y := (⟨"com/example/hasselt/hasselt/storage/Numbers", "take", "()I"⟩ : MethodName)) (z := (⟨"com/example/hasselt/hasselt/storage/Numbers", "take", "()I"⟩ : MethodName)) hown (mvT hZ (hw _ (List.mem_of_getElem? (i := 13) rfl))) (mvT hZ (hw _ (List.mem_of_getElem? (i := 14) rfl))) (notFace_of_selects (args := #[]) (mvT hZ (hw _ (List.mem_of_getElem? (i := 16) rfl)))) (mvT hZ (hw _ (List.mem_of_getElem? (i := 16) rfl))) (mvT hZ (hw _ (List.mem_of_getElem? (i := 15) rfl))) (by decide) (backOf (W := 0) (rm3a l Z a0 hw [] a1 fa (((0 : Int32) + (1 : Int32)) - (1 : Int32)) (((((0 : Int32) + (1 : Int32)) + (1 : Int32)) + (1 : Int32)) + (1 : Int32)) h76 n0 Z78 E78_0 g_a1 Fa76 Fb76 Fc76 (by decide)) hZ (hw _ (List.mem_of_getElem? (i := 17) rfl)) (hw _ (List.mem_of_getElem? (i := 3) rfl)) (by decide) (by decide)) q82a q82c (g := (mkF m 121 #[.val (.int g0), .val (.int x0), .val (.int d0), .val (.int (1 : Int32)), .val (.int xx), .val (.int yy), .val (.ref a1), .val (.int (0 : Int32)), .val (.int ((0 : Int32) + (1 : Int32))), .val (.int (((0 : Int32) + (1 : Int32)) + (1 : Int32))), .val (.int (1 : Int32)), .val (.int xx), .val (.int ((((0 : Int32) + (1 : Int32)) + (1 : Int32)) + (1 : Int32))), .unset, .unset, .unset, .unset] [(.ref a1)])) rfl (by rw [hml]; rfl) (Steps.refl _) (argsL := []) (rest := []) (lenOf pd_i rfl) rfl (by show 2 * 0 + _ ≤ _; exact Nat.le_of_eq rfl) (hb hby at_121) (fun _ _ => ⟨rfl, e76, (by decide : 2 + 0 ≤ _), (by decide : 11 + 0 ≤ _)⟩)
    dsimp only [Pt.U, Pt.locs, Pt.cells, Pt.slots] at X82 l82 y82 z82 st82 hQ82
    subst l82 y82 z82
    obtain ⟨rfl, Nq82, Kq82, Fa82, Fb82, Fc82⟩ := hQ82
    have N82 := Fr.app N76 Nq82
    have pre83 : ∀ t, Steps p.tables e below (T82.setTop (mkF m 124 #[.val (.int g0), .val (.int x0), .val (.int d0), .val (.int (1 : Int32)), .val (.int xx), .val (.int yy), .val (.ref a1), .val (.int (0 : Int32)), .val (.int ((0 : Int32) + (1 : Int32))), .val (.int (((0 : Int32) + (1 : Int32)) + (1 : Int32))), .val (.int (1 : Int32)), .val (.int xx), .val (.int ((((0 : Int32) + (1 : Int32)) + (1 : Int32)) + (1 : Int32))), .unset, .unset, .unset, .unset] [(.int (((((0 : Int32) + (1 : Int32)) + (1 : Int32)) + (1 : Int32)) + (1 : Int32)))])) t → Steps p.tables e below (s₁.setTop (entryFrame m #[(.int g0), (.int x0), (.int d0)] maxLocals)) t := fun t k => pre80 t (st82.trans k)
    obtain ⟨h82, e82⟩ : ∃ z, T82.heap = z := ⟨_, rfl⟩
    rw [e82] at Kq82 Fa82 Fb82 Fc82
    have E84_0 : Exa Z h82 a1 "com/example/hasselt/hasselt/storage/Numbers" := (E78_0.keep Kq82)
    have V84_0 : Arv Z h82 fa kk .int (8 : Int32) [(.int xx), (.int (0 : Int32)), (.int (0 : Int32)), (.int (0 : Int32)), (.int (0 : Int32)), (.int (0 : Int32)), (.int (0 : Int32)), (.int (0 : Int32))] (.int (0 : Int32)) := (V78_0.keep Kq82 (ninS ne_a1_fa.symm nin0))
    have Z84 : n0 ≤ h82.size := (Nat.le_trans Z78 Kq82.1)
    have pre86 : ∀ t, Steps p.tables e below (T82.setTop (mkF m 200 #[.val (.int g0), .val (.int x0), .val (.int d0), .val (.int (1 : Int32)), .val (.int xx), .val (.int yy), .val (.ref a1), .val (.int (0 : Int32)), .val (.int ((0 : Int32) + (1 : Int32))), .val (.int (((0 : Int32) + (1 : Int32)) + (1 : Int32))), .val (.int (1 : Int32)), .val (.int xx), .val (.int ((((0 : Int32) + (1 : Int32)) + (1 : Int32)) + (1 : Int32))), .val (.int (((((0 : Int32) + (1 : Int32)) + (1 : Int32)) + (1 : Int32)) + (1 : Int32))), .val (.int xx), .val (.int (3 : Int32)), .val (.int (4 : Int32))] [(.ref a1)])) t → Steps p.tables e below (s₁.setTop (entryFrame m #[(.int g0), (.int x0), (.int d0)] maxLocals)) t := by
      intro t k
      refine pre83 t ?_
      refine XS.istore X82.here hx rfl (hb hby at_124) rfl (l' := #[.val (.int g0), .val (.int x0), .val (.int d0), .val (.int (1 : Int32)), .val (.int xx), .val (.int yy), .val (.ref a1), .val (.int (0 : Int32)), .val (.int ((0 : Int32) + (1 : Int32))), .val (.int (((0 : Int32) + (1 : Int32)) + (1 : Int32))), .val (.int (1 : Int32)), .val (.int xx), .val (.int ((((0 : Int32) + (1 : Int32)) + (1 : Int32)) + (1 : Int32))), .val (.int (((((0 : Int32) + (1 : Int32)) + (1 : Int32)) + (1 : Int32)) + (1 : Int32))), .unset, .unset, .unset]) rfl ?_
      show Steps p.tables e below (T82.setTop (mkF m 126 #[.val (.int g0), .val (.int x0), .val (.int d0), .val (.int (1 : Int32)), .val (.int xx), .val (.int yy), .val (.ref a1), .val (.int (0 : Int32)), .val (.int ((0 : Int32) + (1 : Int32))), .val (.int (((0 : Int32) + (1 : Int32)) + (1 : Int32))), .val (.int (1 : Int32)), .val (.int xx), .val (.int ((((0 : Int32) + (1 : Int32)) + (1 : Int32)) + (1 : Int32))), .val (.int (((((0 : Int32) + (1 : Int32)) + (1 : Int32)) + (1 : Int32)) + (1 : Int32))), .unset, .unset, .unset] [])) _
      refine XS.iloadN X82.here hx rfl (hb hby at_126) rfl ?_
      show Steps p.tables e below (T82.setTop (mkF m 127 #[.val (.int g0), .val (.int x0), .val (.int d0), .val (.int (1 : Int32)), .val (.int xx), .val (.int yy), .val (.ref a1), .val (.int (0 : Int32)), .val (.int ((0 : Int32) + (1 : Int32))), .val (.int (((0 : Int32) + (1 : Int32)) + (1 : Int32))), .val (.int (1 : Int32)), .val (.int xx), .val (.int ((((0 : Int32) + (1 : Int32)) + (1 : Int32)) + (1 : Int32))), .val (.int (((((0 : Int32) + (1 : Int32)) + (1 : Int32)) + (1 : Int32)) + (1 : Int32))), .unset, .unset, .unset] [(.int (1 : Int32))])) _
      refine XS.iconst X82.here hx rfl (hb hby at_127) ?_
      show Steps p.tables e below (T82.setTop (mkF m 128 #[.val (.int g0), .val (.int x0), .val (.int d0), .val (.int (1 : Int32)), .val (.int xx), .val (.int yy), .val (.ref a1), .val (.int (0 : Int32)), .val (.int ((0 : Int32) + (1 : Int32))), .val (.int (((0 : Int32) + (1 : Int32)) + (1 : Int32))), .val (.int (1 : Int32)), .val (.int xx), .val (.int ((((0 : Int32) + (1 : Int32)) + (1 : Int32)) + (1 : Int32))), .val (.int (((((0 : Int32) + (1 : Int32)) + (1 : Int32)) + (1 : Int32)) + (1 : Int32))), .unset, .unset, .unset] [(.int (2 : Int32)), (.int (1 : Int32))])) _
      refine XS.icmpYes X82.here hx rfl (pc0 := 128) (pc' := 145) rfl (hb hby at_128) rfl (XT.ii_ne_t (by decide)) (by decide) (by decide) ?_
      show Steps p.tables e below (T82.setTop (mkF m 145 #[.val (.int g0), .val (.int x0), .val (.int d0), .val (.int (1 : Int32)), .val (.int xx), .val (.int yy), .val (.ref a1), .val (.int (0 : Int32)), .val (.int ((0 : Int32) + (1 : Int32))), .val (.int (((0 : Int32) + (1 : Int32)) + (1 : Int32))), .val (.int (1 : Int32)), .val (.int xx), .val (.int ((((0 : Int32) + (1 : Int32)) + (1 : Int32)) + (1 : Int32))), .val (.int (((((0 : Int32) + (1 : Int32)) + (1 : Int32)) + (1 : Int32)) + (1 : Int32))), .unset, .unset, .unset] [])) _
      refine XS.iloadN X82.here hx rfl (hb hby at_145) rfl ?_
      show Steps p.tables e below (T82.setTop (mkF m 146 #[.val (.int g0), .val (.int x0), .val (.int d0), .val (.int (1 : Int32)), .val (.int xx), .val (.int yy), .val (.ref a1), .val (.int (0 : Int32)), .val (.int ((0 : Int32) + (1 : Int32))), .val (.int (((0 : Int32) + (1 : Int32)) + (1 : Int32))), .val (.int (1 : Int32)), .val (.int xx), .val (.int ((((0 : Int32) + (1 : Int32)) + (1 : Int32)) + (1 : Int32))), .val (.int (((((0 : Int32) + (1 : Int32)) + (1 : Int32)) + (1 : Int32)) + (1 : Int32))), .unset, .unset, .unset] [(.int (1 : Int32))])) _
      refine XS.iconst X82.here hx rfl (hb hby at_146) ?_
      show Steps p.tables e below (T82.setTop (mkF m 147 #[.val (.int g0), .val (.int x0), .val (.int d0), .val (.int (1 : Int32)), .val (.int xx), .val (.int yy), .val (.ref a1), .val (.int (0 : Int32)), .val (.int ((0 : Int32) + (1 : Int32))), .val (.int (((0 : Int32) + (1 : Int32)) + (1 : Int32))), .val (.int (1 : Int32)), .val (.int xx), .val (.int ((((0 : Int32) + (1 : Int32)) + (1 : Int32)) + (1 : Int32))), .val (.int (((((0 : Int32) + (1 : Int32)) + (1 : Int32)) + (1 : Int32)) + (1 : Int32))), .unset, .unset, .unset] [(.int (1 : Int32)), (.int (1 : Int32))])) _
      refine XS.icmpNo X82.here hx rfl (hb hby at_147) rfl (XT.ii_ne_f (by decide)) ?_
      show Steps p.tables e below (T82.setTop (mkF m 150 #[.val (.int g0), .val (.int x0), .val (.int d0), .val (.int (1 : Int32)), .val (.int xx), .val (.int yy), .val (.ref a1), .val (.int (0 : Int32)), .val (.int ((0 : Int32) + (1 : Int32))), .val (.int (((0 : Int32) + (1 : Int32)) + (1 : Int32))), .val (.int (1 : Int32)), .val (.int xx), .val (.int ((((0 : Int32) + (1 : Int32)) + (1 : Int32)) + (1 : Int32))), .val (.int (((((0 : Int32) + (1 : Int32)) + (1 : Int32)) + (1 : Int32)) + (1 : Int32))), .unset, .unset, .unset] [])) _
      refine XS.iload X82.here hx rfl (hb hby at_150) rfl ?_
      show Steps p.tables e below (T82.setTop (mkF m 152 #[.val (.int g0), .val (.int x0), .val (.int d0), .val (.int (1 : Int32)), .val (.int xx), .val (.int yy), .val (.ref a1), .val (.int (0 : Int32)), .val (.int ((0 : Int32) + (1 : Int32))), .val (.int (((0 : Int32) + (1 : Int32)) + (1 : Int32))), .val (.int (1 : Int32)), .val (.int xx), .val (.int ((((0 : Int32) + (1 : Int32)) + (1 : Int32)) + (1 : Int32))), .val (.int (((((0 : Int32) + (1 : Int32)) + (1 : Int32)) + (1 : Int32)) + (1 : Int32))), .unset, .unset, .unset] [(.int xx)])) _
      refine XS.istore X82.here hx rfl (hb hby at_152) rfl (l' := #[.val (.int g0), .val (.int x0), .val (.int d0), .val (.int (1 : Int32)), .val (.int xx), .val (.int yy), .val (.ref a1), .val (.int (0 : Int32)), .val (.int ((0 : Int32) + (1 : Int32))), .val (.int (((0 : Int32) + (1 : Int32)) + (1 : Int32))), .val (.int (1 : Int32)), .val (.int xx), .val (.int ((((0 : Int32) + (1 : Int32)) + (1 : Int32)) + (1 : Int32))), .val (.int (((((0 : Int32) + (1 : Int32)) + (1 : Int32)) + (1 : Int32)) + (1 : Int32))), .val (.int xx), .unset, .unset]) rfl ?_
      show Steps p.tables e below (T82.setTop (mkF m 154 #[.val (.int g0), .val (.int x0), .val (.int d0), .val (.int (1 : Int32)), .val (.int xx), .val (.int yy), .val (.ref a1), .val (.int (0 : Int32)), .val (.int ((0 : Int32) + (1 : Int32))), .val (.int (((0 : Int32) + (1 : Int32)) + (1 : Int32))), .val (.int (1 : Int32)), .val (.int xx), .val (.int ((((0 : Int32) + (1 : Int32)) + (1 : Int32)) + (1 : Int32))), .val (.int (((((0 : Int32) + (1 : Int32)) + (1 : Int32)) + (1 : Int32)) + (1 : Int32))), .val (.int xx), .unset, .unset] [])) _
      refine XS.iconst X82.here hx rfl (hb hby at_154) ?_
      show Steps p.tables e below (T82.setTop (mkF m 155 #[.val (.int g0), .val (.int x0), .val (.int d0), .val (.int (1 : Int32)), .val (.int xx), .val (.int yy), .val (.ref a1), .val (.int (0 : Int32)), .val (.int ((0 : Int32) + (1 : Int32))), .val (.int (((0 : Int32) + (1 : Int32)) + (1 : Int32))), .val (.int (1 : Int32)), .val (.int xx), .val (.int ((((0 : Int32) + (1 : Int32)) + (1 : Int32)) + (1 : Int32))), .val (.int (((((0 : Int32) + (1 : Int32)) + (1 : Int32)) + (1 : Int32)) + (1 : Int32))), .val (.int xx), .unset, .unset] [(.int (3 : Int32))])) _
      refine XS.istore X82.here hx rfl (hb hby at_155) rfl (l' := #[.val (.int g0), .val (.int x0), .val (.int d0), .val (.int (1 : Int32)), .val (.int xx), .val (.int yy), .val (.ref a1), .val (.int (0 : Int32)), .val (.int ((0 : Int32) + (1 : Int32))), .val (.int (((0 : Int32) + (1 : Int32)) + (1 : Int32))), .val (.int (1 : Int32)), .val (.int xx), .val (.int ((((0 : Int32) + (1 : Int32)) + (1 : Int32)) + (1 : Int32))), .val (.int (((((0 : Int32) + (1 : Int32)) + (1 : Int32)) + (1 : Int32)) + (1 : Int32))), .val (.int xx), .val (.int (3 : Int32)), .unset]) rfl ?_
      show Steps p.tables e below (T82.setTop (mkF m 157 #[.val (.int g0), .val (.int x0), .val (.int d0), .val (.int (1 : Int32)), .val (.int xx), .val (.int yy), .val (.ref a1), .val (.int (0 : Int32)), .val (.int ((0 : Int32) + (1 : Int32))), .val (.int (((0 : Int32) + (1 : Int32)) + (1 : Int32))), .val (.int (1 : Int32)), .val (.int xx), .val (.int ((((0 : Int32) + (1 : Int32)) + (1 : Int32)) + (1 : Int32))), .val (.int (((((0 : Int32) + (1 : Int32)) + (1 : Int32)) + (1 : Int32)) + (1 : Int32))), .val (.int xx), .val (.int (3 : Int32)), .unset] [])) _
      refine XS.iconst X82.here hx rfl (hb hby at_157) ?_
      show Steps p.tables e below (T82.setTop (mkF m 158 #[.val (.int g0), .val (.int x0), .val (.int d0), .val (.int (1 : Int32)), .val (.int xx), .val (.int yy), .val (.ref a1), .val (.int (0 : Int32)), .val (.int ((0 : Int32) + (1 : Int32))), .val (.int (((0 : Int32) + (1 : Int32)) + (1 : Int32))), .val (.int (1 : Int32)), .val (.int xx), .val (.int ((((0 : Int32) + (1 : Int32)) + (1 : Int32)) + (1 : Int32))), .val (.int (((((0 : Int32) + (1 : Int32)) + (1 : Int32)) + (1 : Int32)) + (1 : Int32))), .val (.int xx), .val (.int (3 : Int32)), .unset] [(.int (4 : Int32))])) _
      refine XS.istore X82.here hx rfl (hb hby at_158) rfl (l' := #[.val (.int g0), .val (.int x0), .val (.int d0), .val (.int (1 : Int32)), .val (.int xx), .val (.int yy), .val (.ref a1), .val (.int (0 : Int32)), .val (.int ((0 : Int32) + (1 : Int32))), .val (.int (((0 : Int32) + (1 : Int32)) + (1 : Int32))), .val (.int (1 : Int32)), .val (.int xx), .val (.int ((((0 : Int32) + (1 : Int32)) + (1 : Int32)) + (1 : Int32))), .val (.int (((((0 : Int32) + (1 : Int32)) + (1 : Int32)) + (1 : Int32)) + (1 : Int32))), .val (.int xx), .val (.int (3 : Int32)), .val (.int (4 : Int32))]) rfl ?_
      show Steps p.tables e below (T82.setTop (mkF m 160 #[.val (.int g0), .val (.int x0), .val (.int d0), .val (.int (1 : Int32)), .val (.int xx), .val (.int yy), .val (.ref a1), .val (.int (0 : Int32)), .val (.int ((0 : Int32) + (1 : Int32))), .val (.int (((0 : Int32) + (1 : Int32)) + (1 : Int32))), .val (.int (1 : Int32)), .val (.int xx), .val (.int ((((0 : Int32) + (1 : Int32)) + (1 : Int32)) + (1 : Int32))), .val (.int (((((0 : Int32) + (1 : Int32)) + (1 : Int32)) + (1 : Int32)) + (1 : Int32))), .val (.int xx), .val (.int (3 : Int32)), .val (.int (4 : Int32))] [])) _
      refine XS.goto X82.here hx rfl (pc0 := 160) (pc' := 172) rfl (hb hby at_160) (by decide) (by decide) ?_
      show Steps p.tables e below (T82.setTop (mkF m 172 #[.val (.int g0), .val (.int x0), .val (.int d0), .val (.int (1 : Int32)), .val (.int xx), .val (.int yy), .val (.ref a1), .val (.int (0 : Int32)), .val (.int ((0 : Int32) + (1 : Int32))), .val (.int (((0 : Int32) + (1 : Int32)) + (1 : Int32))), .val (.int (1 : Int32)), .val (.int xx), .val (.int ((((0 : Int32) + (1 : Int32)) + (1 : Int32)) + (1 : Int32))), .val (.int (((((0 : Int32) + (1 : Int32)) + (1 : Int32)) + (1 : Int32)) + (1 : Int32))), .val (.int xx), .val (.int (3 : Int32)), .val (.int (4 : Int32))] [])) _
      refine XS.iload X82.here hx rfl (hb hby at_172) rfl ?_
      show Steps p.tables e below (T82.setTop (mkF m 174 #[.val (.int g0), .val (.int x0), .val (.int d0), .val (.int (1 : Int32)), .val (.int xx), .val (.int yy), .val (.ref a1), .val (.int (0 : Int32)), .val (.int ((0 : Int32) + (1 : Int32))), .val (.int (((0 : Int32) + (1 : Int32)) + (1 : Int32))), .val (.int (1 : Int32)), .val (.int xx), .val (.int ((((0 : Int32) + (1 : Int32)) + (1 : Int32)) + (1 : Int32))), .val (.int (((((0 : Int32) + (1 : Int32)) + (1 : Int32)) + (1 : Int32)) + (1 : Int32))), .val (.int xx), .val (.int (3 : Int32)), .val (.int (4 : Int32))] [(.int (1 : Int32))])) _
      refine XS.ifNo X82.here hx rfl (hb hby at_174) rfl (XT.i0_eq_f (by decide)) ?_
      show Steps p.tables e below (T82.setTop (mkF m 177 #[.val (.int g0), .val (.int x0), .val (.int d0), .val (.int (1 : Int32)), .val (.int xx), .val (.int yy), .val (.ref a1), .val (.int (0 : Int32)), .val (.int ((0 : Int32) + (1 : Int32))), .val (.int (((0 : Int32) + (1 : Int32)) + (1 : Int32))), .val (.int (1 : Int32)), .val (.int xx), .val (.int ((((0 : Int32) + (1 : Int32)) + (1 : Int32)) + (1 : Int32))), .val (.int (((((0 : Int32) + (1 : Int32)) + (1 : Int32)) + (1 : Int32)) + (1 : Int32))), .val (.int xx), .val (.int (3 : Int32)), .val (.int (4 : Int32))] [])) _
      refine XS.iload X82.here hx rfl (hb hby at_177) rfl ?_
      show Steps p.tables e below (T82.setTop (mkF m 179 #[.val (.int g0), .val (.int x0), .val (.int d0), .val (.int (1 : Int32)), .val (.int xx), .val (.int yy), .val (.ref a1), .val (.int (0 : Int32)), .val (.int ((0 : Int32) + (1 : Int32))), .val (.int (((0 : Int32) + (1 : Int32)) + (1 : Int32))), .val (.int (1 : Int32)), .val (.int xx), .val (.int ((((0 : Int32) + (1 : Int32)) + (1 : Int32)) + (1 : Int32))), .val (.int (((((0 : Int32) + (1 : Int32)) + (1 : Int32)) + (1 : Int32)) + (1 : Int32))), .val (.int xx), .val (.int (3 : Int32)), .val (.int (4 : Int32))] [(.int xx)])) _
      refine XS.iload X82.here hx rfl (hb hby at_179) rfl ?_
      show Steps p.tables e below (T82.setTop (mkF m 181 #[.val (.int g0), .val (.int x0), .val (.int d0), .val (.int (1 : Int32)), .val (.int xx), .val (.int yy), .val (.ref a1), .val (.int (0 : Int32)), .val (.int ((0 : Int32) + (1 : Int32))), .val (.int (((0 : Int32) + (1 : Int32)) + (1 : Int32))), .val (.int (1 : Int32)), .val (.int xx), .val (.int ((((0 : Int32) + (1 : Int32)) + (1 : Int32)) + (1 : Int32))), .val (.int (((((0 : Int32) + (1 : Int32)) + (1 : Int32)) + (1 : Int32)) + (1 : Int32))), .val (.int xx), .val (.int (3 : Int32)), .val (.int (4 : Int32))] [(.int xx), (.int xx)])) _
      refine XS.icmpNo X82.here hx rfl (hb hby at_181) rfl (XT.ii_ne_f rfl) ?_
      show Steps p.tables e below (T82.setTop (mkF m 184 #[.val (.int g0), .val (.int x0), .val (.int d0), .val (.int (1 : Int32)), .val (.int xx), .val (.int yy), .val (.ref a1), .val (.int (0 : Int32)), .val (.int ((0 : Int32) + (1 : Int32))), .val (.int (((0 : Int32) + (1 : Int32)) + (1 : Int32))), .val (.int (1 : Int32)), .val (.int xx), .val (.int ((((0 : Int32) + (1 : Int32)) + (1 : Int32)) + (1 : Int32))), .val (.int (((((0 : Int32) + (1 : Int32)) + (1 : Int32)) + (1 : Int32)) + (1 : Int32))), .val (.int xx), .val (.int (3 : Int32)), .val (.int (4 : Int32))] [])) _
      refine XS.iload X82.here hx rfl (hb hby at_184) rfl ?_
      show Steps p.tables e below (T82.setTop (mkF m 186 #[.val (.int g0), .val (.int x0), .val (.int d0), .val (.int (1 : Int32)), .val (.int xx), .val (.int yy), .val (.ref a1), .val (.int (0 : Int32)), .val (.int ((0 : Int32) + (1 : Int32))), .val (.int (((0 : Int32) + (1 : Int32)) + (1 : Int32))), .val (.int (1 : Int32)), .val (.int xx), .val (.int ((((0 : Int32) + (1 : Int32)) + (1 : Int32)) + (1 : Int32))), .val (.int (((((0 : Int32) + (1 : Int32)) + (1 : Int32)) + (1 : Int32)) + (1 : Int32))), .val (.int xx), .val (.int (3 : Int32)), .val (.int (4 : Int32))] [(.int ((((0 : Int32) + (1 : Int32)) + (1 : Int32)) + (1 : Int32)))])) _
      refine XS.iload X82.here hx rfl (hb hby at_186) rfl ?_
      show Steps p.tables e below (T82.setTop (mkF m 188 #[.val (.int g0), .val (.int x0), .val (.int d0), .val (.int (1 : Int32)), .val (.int xx), .val (.int yy), .val (.ref a1), .val (.int (0 : Int32)), .val (.int ((0 : Int32) + (1 : Int32))), .val (.int (((0 : Int32) + (1 : Int32)) + (1 : Int32))), .val (.int (1 : Int32)), .val (.int xx), .val (.int ((((0 : Int32) + (1 : Int32)) + (1 : Int32)) + (1 : Int32))), .val (.int (((((0 : Int32) + (1 : Int32)) + (1 : Int32)) + (1 : Int32)) + (1 : Int32))), .val (.int xx), .val (.int (3 : Int32)), .val (.int (4 : Int32))] [(.int (3 : Int32)), (.int ((((0 : Int32) + (1 : Int32)) + (1 : Int32)) + (1 : Int32)))])) _
      refine XS.icmpNo X82.here hx rfl (hb hby at_188) rfl (XT.ii_ne_f (by decide)) ?_
      show Steps p.tables e below (T82.setTop (mkF m 191 #[.val (.int g0), .val (.int x0), .val (.int d0), .val (.int (1 : Int32)), .val (.int xx), .val (.int yy), .val (.ref a1), .val (.int (0 : Int32)), .val (.int ((0 : Int32) + (1 : Int32))), .val (.int (((0 : Int32) + (1 : Int32)) + (1 : Int32))), .val (.int (1 : Int32)), .val (.int xx), .val (.int ((((0 : Int32) + (1 : Int32)) + (1 : Int32)) + (1 : Int32))), .val (.int (((((0 : Int32) + (1 : Int32)) + (1 : Int32)) + (1 : Int32)) + (1 : Int32))), .val (.int xx), .val (.int (3 : Int32)), .val (.int (4 : Int32))] [])) _
      refine XS.iload X82.here hx rfl (hb hby at_191) rfl ?_
      show Steps p.tables e below (T82.setTop (mkF m 193 #[.val (.int g0), .val (.int x0), .val (.int d0), .val (.int (1 : Int32)), .val (.int xx), .val (.int yy), .val (.ref a1), .val (.int (0 : Int32)), .val (.int ((0 : Int32) + (1 : Int32))), .val (.int (((0 : Int32) + (1 : Int32)) + (1 : Int32))), .val (.int (1 : Int32)), .val (.int xx), .val (.int ((((0 : Int32) + (1 : Int32)) + (1 : Int32)) + (1 : Int32))), .val (.int (((((0 : Int32) + (1 : Int32)) + (1 : Int32)) + (1 : Int32)) + (1 : Int32))), .val (.int xx), .val (.int (3 : Int32)), .val (.int (4 : Int32))] [(.int (((((0 : Int32) + (1 : Int32)) + (1 : Int32)) + (1 : Int32)) + (1 : Int32)))])) _
      refine XS.iload X82.here hx rfl (hb hby at_193) rfl ?_
      show Steps p.tables e below (T82.setTop (mkF m 195 #[.val (.int g0), .val (.int x0), .val (.int d0), .val (.int (1 : Int32)), .val (.int xx), .val (.int yy), .val (.ref a1), .val (.int (0 : Int32)), .val (.int ((0 : Int32) + (1 : Int32))), .val (.int (((0 : Int32) + (1 : Int32)) + (1 : Int32))), .val (.int (1 : Int32)), .val (.int xx), .val (.int ((((0 : Int32) + (1 : Int32)) + (1 : Int32)) + (1 : Int32))), .val (.int (((((0 : Int32) + (1 : Int32)) + (1 : Int32)) + (1 : Int32)) + (1 : Int32))), .val (.int xx), .val (.int (3 : Int32)), .val (.int (4 : Int32))] [(.int (4 : Int32)), (.int (((((0 : Int32) + (1 : Int32)) + (1 : Int32)) + (1 : Int32)) + (1 : Int32)))])) _
      refine XS.icmpNo X82.here hx rfl (hb hby at_195) rfl (XT.ii_ne_f (by decide)) ?_
      show Steps p.tables e below (T82.setTop (mkF m 198 #[.val (.int g0), .val (.int x0), .val (.int d0), .val (.int (1 : Int32)), .val (.int xx), .val (.int yy), .val (.ref a1), .val (.int (0 : Int32)), .val (.int ((0 : Int32) + (1 : Int32))), .val (.int (((0 : Int32) + (1 : Int32)) + (1 : Int32))), .val (.int (1 : Int32)), .val (.int xx), .val (.int ((((0 : Int32) + (1 : Int32)) + (1 : Int32)) + (1 : Int32))), .val (.int (((((0 : Int32) + (1 : Int32)) + (1 : Int32)) + (1 : Int32)) + (1 : Int32))), .val (.int xx), .val (.int (3 : Int32)), .val (.int (4 : Int32))] [])) _
      refine XS.aload X82.here hx rfl (hb hby at_198) rfl rfl ?_
      show Steps p.tables e below (T82.setTop (mkF m 200 #[.val (.int g0), .val (.int x0), .val (.int d0), .val (.int (1 : Int32)), .val (.int xx), .val (.int yy), .val (.ref a1), .val (.int (0 : Int32)), .val (.int ((0 : Int32) + (1 : Int32))), .val (.int (((0 : Int32) + (1 : Int32)) + (1 : Int32))), .val (.int (1 : Int32)), .val (.int xx), .val (.int ((((0 : Int32) + (1 : Int32)) + (1 : Int32)) + (1 : Int32))), .val (.int (((((0 : Int32) + (1 : Int32)) + (1 : Int32)) + (1 : Int32)) + (1 : Int32))), .val (.int xx), .val (.int (3 : Int32)), .val (.int (4 : Int32))] [(.ref a1)])) _
      exact k
    obtain ⟨cq88, kq88, q88a, q88b, q88c⟩ := isOf hZ e82 E84_0
    obtain ⟨_, _, ⟨T88, L88, k88, n88⟩, -, X88, ⟨Lc88, hQ88, l88, y88, z88⟩, st88⟩ := X82.virtualBack hx (y := (⟨"com/example/hasselt/hasselt/storage/Numbers", "limit", "()I"⟩ : MethodName)) (z := (⟨"com/example/hasselt/hasselt/storage/Numbers", "limit", "()I"⟩ : MethodName)) hown (mvT hZ (hw _ (List.mem_of_getElem? (i := 22) rfl))) (mvT hZ (hw _ (List.mem_of_getElem? (i := 23) rfl))) (notFace_of_selects (args := #[]) (mvT hZ (hw _ (List.mem_of_getElem? (i := 25) rfl)))) (mvT hZ (hw _ (List.mem_of_getElem? (i := 25) rfl))) (mvT hZ (hw _ (List.mem_of_getElem? (i := 24) rfl))) (by decide) (backOf (W := 0) (rm4 l Z a0 hw [] a1 fa (((0 : Int32) + (1 : Int32)) - (1 : Int32)) ((((((0 : Int32) + (1 : Int32)) + (1 : Int32)) + (1 : Int32)) + (1 : Int32)) + (1 : Int32)) h82 n0 Z84 Fa82 Fb82 Fc82) hZ (hw _ (List.mem_of_getElem? (i := 26) rfl)) (hw _ (List.mem_of_getElem? (i := 3) rfl)) (by decide) (by decide)) q88a q88c (g := (mkF m 200 #[.val (.int g0), .val (.int x0), .val (.int d0), .val (.int (1 : Int32)), .val (.int xx), .val (.int yy), .val (.ref a1), .val (.int (0 : Int32)), .val (.int ((0 : Int32) + (1 : Int32))), .val (.int (((0 : Int32) + (1 : Int32)) + (1 : Int32))), .val (.int (1 : Int32)), .val (.int xx), .val (.int ((((0 : Int32) + (1 : Int32)) + (1 : Int32)) + (1 : Int32))), .val (.int (((((0 : Int32) + (1 : Int32)) + (1 : Int32)) + (1 : Int32)) + (1 : Int32))), .val (.int xx), .val (.int (3 : Int32)), .val (.int (4 : Int32))] [(.ref a1)])) rfl (by rw [hml]; rfl) (Steps.refl _) (argsL := []) (rest := []) (lenOf pd_i rfl) rfl (by show 2 * 0 + _ ≤ _; exact Nat.le_of_eq rfl) (hb hby at_200) (fun _ _ => ⟨rfl, e82, (by decide : 2 + 0 ≤ _), (by decide : 11 + 0 ≤ _)⟩)
    dsimp only [Pt.U, Pt.locs, Pt.cells, Pt.slots] at X88 l88 y88 z88 st88 hQ88
    subst l88 y88 z88
    obtain ⟨rfl, Nq88, heq88⟩ := hQ88
    have N88 := Fr.app N82 Nq88
    have pre89 : ∀ t, Steps p.tables e below (T88.setTop (mkF m 203 #[.val (.int g0), .val (.int x0), .val (.int d0), .val (.int (1 : Int32)), .val (.int xx), .val (.int yy), .val (.ref a1), .val (.int (0 : Int32)), .val (.int ((0 : Int32) + (1 : Int32))), .val (.int (((0 : Int32) + (1 : Int32)) + (1 : Int32))), .val (.int (1 : Int32)), .val (.int xx), .val (.int ((((0 : Int32) + (1 : Int32)) + (1 : Int32)) + (1 : Int32))), .val (.int (((((0 : Int32) + (1 : Int32)) + (1 : Int32)) + (1 : Int32)) + (1 : Int32))), .val (.int xx), .val (.int (3 : Int32)), .val (.int (4 : Int32))] [(.int ((((((0 : Int32) + (1 : Int32)) + (1 : Int32)) + (1 : Int32)) + (1 : Int32)) + (1 : Int32)))])) t → Steps p.tables e below (s₁.setTop (entryFrame m #[(.int g0), (.int x0), (.int d0)] maxLocals)) t := fun t k => pre86 t (st88.trans k)
    have pre90 : ∀ t, Steps p.tables e below (T88.setTop (mkF m 215 #[.val (.int g0), .val (.int x0), .val (.int d0), .val (.int (1 : Int32)), .val (.int xx), .val (.int yy), .val (.ref a1), .val (.int (0 : Int32)), .val (.int ((0 : Int32) + (1 : Int32))), .val (.int (((0 : Int32) + (1 : Int32)) + (1 : Int32))), .val (.int (1 : Int32)), .val (.int xx), .val (.int ((((0 : Int32) + (1 : Int32)) + (1 : Int32)) + (1 : Int32))), .val (.int (((((0 : Int32) + (1 : Int32)) + (1 : Int32)) + (1 : Int32)) + (1 : Int32))), .val (.int xx), .val (.int (3 : Int32)), .val (.int (4 : Int32))] [(.int (1 : Int32))])) t → Steps p.tables e below (s₁.setTop (entryFrame m #[(.int g0), (.int x0), (.int d0)] maxLocals)) t := by
      intro t k
      refine pre89 t ?_
      refine XS.bipush X88.here hx rfl (hb hby at_203) ?_
      show Steps p.tables e below (T88.setTop (mkF m 205 #[.val (.int g0), .val (.int x0), .val (.int d0), .val (.int (1 : Int32)), .val (.int xx), .val (.int yy), .val (.ref a1), .val (.int (0 : Int32)), .val (.int ((0 : Int32) + (1 : Int32))), .val (.int (((0 : Int32) + (1 : Int32)) + (1 : Int32))), .val (.int (1 : Int32)), .val (.int xx), .val (.int ((((0 : Int32) + (1 : Int32)) + (1 : Int32)) + (1 : Int32))), .val (.int (((((0 : Int32) + (1 : Int32)) + (1 : Int32)) + (1 : Int32)) + (1 : Int32))), .val (.int xx), .val (.int (3 : Int32)), .val (.int (4 : Int32))] [(.int (6 : Int32)), (.int ((((((0 : Int32) + (1 : Int32)) + (1 : Int32)) + (1 : Int32)) + (1 : Int32)) + (1 : Int32)))])) _
      refine XS.iloadN X88.here hx rfl (hb hby at_205) rfl ?_
      show Steps p.tables e below (T88.setTop (mkF m 206 #[.val (.int g0), .val (.int x0), .val (.int d0), .val (.int (1 : Int32)), .val (.int xx), .val (.int yy), .val (.ref a1), .val (.int (0 : Int32)), .val (.int ((0 : Int32) + (1 : Int32))), .val (.int (((0 : Int32) + (1 : Int32)) + (1 : Int32))), .val (.int (1 : Int32)), .val (.int xx), .val (.int ((((0 : Int32) + (1 : Int32)) + (1 : Int32)) + (1 : Int32))), .val (.int (((((0 : Int32) + (1 : Int32)) + (1 : Int32)) + (1 : Int32)) + (1 : Int32))), .val (.int xx), .val (.int (3 : Int32)), .val (.int (4 : Int32))] [(.int (1 : Int32)), (.int (6 : Int32)), (.int ((((((0 : Int32) + (1 : Int32)) + (1 : Int32)) + (1 : Int32)) + (1 : Int32)) + (1 : Int32)))])) _
      refine XS.isub X88.here hx rfl (hb hby at_206) rfl ?_
      show Steps p.tables e below (T88.setTop (mkF m 207 #[.val (.int g0), .val (.int x0), .val (.int d0), .val (.int (1 : Int32)), .val (.int xx), .val (.int yy), .val (.ref a1), .val (.int (0 : Int32)), .val (.int ((0 : Int32) + (1 : Int32))), .val (.int (((0 : Int32) + (1 : Int32)) + (1 : Int32))), .val (.int (1 : Int32)), .val (.int xx), .val (.int ((((0 : Int32) + (1 : Int32)) + (1 : Int32)) + (1 : Int32))), .val (.int (((((0 : Int32) + (1 : Int32)) + (1 : Int32)) + (1 : Int32)) + (1 : Int32))), .val (.int xx), .val (.int (3 : Int32)), .val (.int (4 : Int32))] [(.int ((6 : Int32) - (1 : Int32))), (.int ((((((0 : Int32) + (1 : Int32)) + (1 : Int32)) + (1 : Int32)) + (1 : Int32)) + (1 : Int32)))])) _
      refine XS.icmpNo X88.here hx rfl (hb hby at_207) rfl (XT.ii_ne_f (by decide)) ?_
      show Steps p.tables e below (T88.setTop (mkF m 210 #[.val (.int g0), .val (.int x0), .val (.int d0), .val (.int (1 : Int32)), .val (.int xx), .val (.int yy), .val (.ref a1), .val (.int (0 : Int32)), .val (.int ((0 : Int32) + (1 : Int32))), .val (.int (((0 : Int32) + (1 : Int32)) + (1 : Int32))), .val (.int (1 : Int32)), .val (.int xx), .val (.int ((((0 : Int32) + (1 : Int32)) + (1 : Int32)) + (1 : Int32))), .val (.int (((((0 : Int32) + (1 : Int32)) + (1 : Int32)) + (1 : Int32)) + (1 : Int32))), .val (.int xx), .val (.int (3 : Int32)), .val (.int (4 : Int32))] [])) _
      refine XS.iconst X88.here hx rfl (hb hby at_210) ?_
      show Steps p.tables e below (T88.setTop (mkF m 211 #[.val (.int g0), .val (.int x0), .val (.int d0), .val (.int (1 : Int32)), .val (.int xx), .val (.int yy), .val (.ref a1), .val (.int (0 : Int32)), .val (.int ((0 : Int32) + (1 : Int32))), .val (.int (((0 : Int32) + (1 : Int32)) + (1 : Int32))), .val (.int (1 : Int32)), .val (.int xx), .val (.int ((((0 : Int32) + (1 : Int32)) + (1 : Int32)) + (1 : Int32))), .val (.int (((((0 : Int32) + (1 : Int32)) + (1 : Int32)) + (1 : Int32)) + (1 : Int32))), .val (.int xx), .val (.int (3 : Int32)), .val (.int (4 : Int32))] [(.int (1 : Int32))])) _
      refine XS.goto X88.here hx rfl (pc0 := 211) (pc' := 215) rfl (hb hby at_211) (by decide) (by decide) ?_
      show Steps p.tables e below (T88.setTop (mkF m 215 #[.val (.int g0), .val (.int x0), .val (.int d0), .val (.int (1 : Int32)), .val (.int xx), .val (.int yy), .val (.ref a1), .val (.int (0 : Int32)), .val (.int ((0 : Int32) + (1 : Int32))), .val (.int (((0 : Int32) + (1 : Int32)) + (1 : Int32))), .val (.int (1 : Int32)), .val (.int xx), .val (.int ((((0 : Int32) + (1 : Int32)) + (1 : Int32)) + (1 : Int32))), .val (.int (((((0 : Int32) + (1 : Int32)) + (1 : Int32)) + (1 : Int32)) + (1 : Int32))), .val (.int xx), .val (.int (3 : Int32)), .val (.int (4 : Int32))] [(.int (1 : Int32))])) _
      exact k
    obtain ⟨fs, hr, hrun, hended, hW, hsame⟩ := X88.leave (v := some (.int (1 : Int32))) (fun h => by rw [Bd.returns] at h; cases h)
    refine ⟨_, _, pre90 _ ?_, hrun, hended, _, _, rfl, ?_, ⟨_, rfl⟩, hW, hsame.mono (by decide) (by decide)⟩
    · exact retOut X88 hx Bd.returns rfl (Or.inl ⟨rfl, by simp, _, rfl⟩) (hb hby at_215) hr
    · show Qlaw Z g0 x0 d0 h0 n0 _ T88.heap _
      rw [heq88]
      exact ⟨rfl, N88⟩
  · subst hq
    have pre93 : ∀ t, Steps p.tables e below (T32.setTop (mkF m 90 #[.val (.int g0), .val (.int x0), .val (.int d0), .val (.int (2 : Int32)), .val (.int xx), .val (.int yy), .val (.ref a1), .val (.int (0 : Int32)), .val (.int ((0 : Int32) + (1 : Int32))), .val (.int (((0 : Int32) + (1 : Int32)) + (1 : Int32))), .val (.int (1 : Int32)), .unset, .unset, .unset, .unset, .unset, .unset] [(.int xx), (.ref a1)])) t → Steps p.tables e below (s₁.setTop (entryFrame m #[(.int g0), (.int x0), (.int d0)] maxLocals)) t := by
      intro t k
      refine pre35 t ?_
      refine XS.icmpNo X32.here hx rfl (hb hby at_83) rfl (XT.ii_lt_f (by decide)) ?_
      show Steps p.tables e below (T32.setTop (mkF m 86 #[.val (.int g0), .val (.int x0), .val (.int d0), .val (.int (2 : Int32)), .val (.int xx), .val (.int yy), .val (.ref a1), .val (.int (0 : Int32)), .val (.int ((0 : Int32) + (1 : Int32))), .val (.int (((0 : Int32) + (1 : Int32)) + (1 : Int32))), .val (.int (1 : Int32)), .unset, .unset, .unset, .unset, .unset, .unset] [])) _
      refine XS.aload X32.here hx rfl (hb hby at_86) rfl rfl ?_
      show Steps p.tables e below (T32.setTop (mkF m 88 #[.val (.int g0), .val (.int x0), .val (.int d0), .val (.int (2 : Int32)), .val (.int xx), .val (.int yy), .val (.ref a1), .val (.int (0 : Int32)), .val (.int ((0 : Int32) + (1 : Int32))), .val (.int (((0 : Int32) + (1 : Int32)) + (1 : Int32))), .val (.int (1 : Int32)), .unset, .unset, .unset, .unset, .unset, .unset] [(.ref a1)])) _
      refine XS.iload X32.here hx rfl (hb hby at_88) rfl ?_
      show Steps p.tables e below (T32.setTop (mkF m 90 #[.val (.int g0), .val (.int x0), .val (.int d0), .val (.int (2 : Int32)), .val (.int xx), .val (.int yy), .val (.ref a1), .val (.int (0 : Int32)), .val (.int ((0 : Int32) + (1 : Int32))), .val (.int (((0 : Int32) + (1 : Int32)) + (1 : Int32))), .val (.int (1 : Int32)), .unset, .unset, .unset, .unset, .unset, .unset] [(.int xx), (.ref a1)])) _
      exact k
    obtain ⟨cq95, kq95, q95a, q95b, q95c⟩ := isOf hZ e32 E34_0
    obtain ⟨_, _, ⟨T95, L95, k95, n95⟩, -, X95, ⟨Lc95, hQ95, l95, y95, z95⟩, st95⟩ := X32.virtualBack hx (y := (⟨"com/example/hasselt/hasselt/storage/Numbers", "giveBack", "(I)V"⟩ : MethodName)) (z := (⟨"com/example/hasselt/hasselt/storage/Numbers", "giveBack", "(I)V"⟩ : MethodName)) hown (mvT hZ (hw _ (List.mem_of_getElem? (i := 27) rfl))) (mvT hZ (hw _ (List.mem_of_getElem? (i := 28) rfl))) (notFace_of_selects (args := #[]) (mvT hZ (hw _ (List.mem_of_getElem? (i := 30) rfl)))) (mvT hZ (hw _ (List.mem_of_getElem? (i := 30) rfl))) (mvT hZ (hw _ (List.mem_of_getElem? (i := 29) rfl))) (by decide) (backOf (W := 0) (rm5 l Z a0 hw [] a1 xx fa (0 : Int32) ((((0 : Int32) + (1 : Int32)) + (1 : Int32)) + (1 : Int32)) kk [(.int (0 : Int32)), (.int (0 : Int32)), (.int (0 : Int32)), (.int (0 : Int32)), (.int (0 : Int32)), (.int (0 : Int32)), (.int (0 : Int32)), (.int (0 : Int32))] 0 h32 n0 Z34 E34_0 g_a1 Fa32 Fb32 Fc32 V34_0 ne_a1_fa g_fa (by decide) (by decide) (by decide) (by decide : 0 < 8)) hZ (hw _ (List.mem_of_getElem? (i := 31) rfl)) (hw _ (List.mem_of_getElem? (i := 3) rfl)) (by decide) (by decide)) q95a q95c (g := (mkF m 90 #[.val (.int g0), .val (.int x0), .val (.int d0), .val (.int (2 : Int32)), .val (.int xx), .val (.int yy), .val (.ref a1), .val (.int (0 : Int32)), .val (.int ((0 : Int32) + (1 : Int32))), .val (.int (((0 : Int32) + (1 : Int32)) + (1 : Int32))), .val (.int (1 : Int32)), .unset, .unset, .unset, .unset, .unset, .unset] [(.int xx), (.ref a1)])) rfl (by rw [hml]; rfl) (Steps.refl _) (argsL := [(.int xx)]) (rest := []) (lenOf pd_give rfl) rfl (by show 2 * 0 + _ ≤ _; exact Nat.le_of_eq rfl) (hb hby at_90) (fun _ _ => ⟨rfl, e32, (by decide : 2 + 0 ≤ _), (by decide : 11 + 0 ≤ _)⟩)
    dsimp only [Pt.U, Pt.locs, Pt.cells, Pt.slots] at X95 l95 y95 z95 st95 hQ95
    subst l95 y95 z95
    obtain ⟨rfl, Nq95, Kq95, Fa95, Fb95, Fc95, Va95⟩ := hQ95
    have N95 := Fr.app N32 Nq95
    have pre96 : ∀ t, Steps p.tables e below (T95.setTop (mkF m 93 #[.val (.int g0), .val (.int x0), .val (.int d0), .val (.int (2 : Int32)), .val (.int xx), .val (.int yy), .val (.ref a1), .val (.int (0 : Int32)), .val (.int ((0 : Int32) + (1 : Int32))), .val (.int (((0 : Int32) + (1 : Int32)) + (1 : Int32))), .val (.int (1 : Int32)), .unset, .unset, .unset, .unset, .unset, .unset] [])) t → Steps p.tables e below (s₁.setTop (entryFrame m #[(.int g0), (.int x0), (.int d0)] maxLocals)) t := fun t k => pre93 t (st95.trans k)
    obtain ⟨h95, e95⟩ : ∃ z, T95.heap = z := ⟨_, rfl⟩
    rw [e95] at Kq95 Fa95 Fb95 Fc95 Va95
    have Vb95 : Arv Z h95 fa kk .int (8 : Int32) [(.int xx), (.int (0 : Int32)), (.int (0 : Int32)), (.int (0 : Int32)), (.int (0 : Int32)), (.int (0 : Int32)), (.int (0 : Int32)), (.int (0 : Int32))] (.int (0 : Int32)) := Va95
    have E97_0 : Exa Z h95 a1 "com/example/hasselt/hasselt/storage/Numbers" := (E34_0.keep Kq95)
    have Z97 : n0 ≤ h95.size := (Nat.le_trans Z34 Kq95.1)
    have pre99 : ∀ t, Steps p.tables e below (T95.setTop (mkF m 102 #[.val (.int g0), .val (.int x0), .val (.int d0), .val (.int (2 : Int32)), .val (.int xx), .val (.int yy), .val (.ref a1), .val (.int (0 : Int32)), .val (.int ((0 : Int32) + (1 : Int32))), .val (.int (((0 : Int32) + (1 : Int32)) + (1 : Int32))), .val (.int (1 : Int32)), .unset, .unset, .unset, .unset, .unset, .unset] [(.int yy), (.ref a1)])) t → Steps p.tables e below (s₁.setTop (entryFrame m #[(.int g0), (.int x0), (.int d0)] maxLocals)) t := by
      intro t k
      refine pre96 t ?_
      refine XS.iloadN X95.here hx rfl (hb hby at_93) rfl ?_
      show Steps p.tables e below (T95.setTop (mkF m 94 #[.val (.int g0), .val (.int x0), .val (.int d0), .val (.int (2 : Int32)), .val (.int xx), .val (.int yy), .val (.ref a1), .val (.int (0 : Int32)), .val (.int ((0 : Int32) + (1 : Int32))), .val (.int (((0 : Int32) + (1 : Int32)) + (1 : Int32))), .val (.int (1 : Int32)), .unset, .unset, .unset, .unset, .unset, .unset] [(.int (2 : Int32))])) _
      refine XS.iconst X95.here hx rfl (hb hby at_94) ?_
      show Steps p.tables e below (T95.setTop (mkF m 95 #[.val (.int g0), .val (.int x0), .val (.int d0), .val (.int (2 : Int32)), .val (.int xx), .val (.int yy), .val (.ref a1), .val (.int (0 : Int32)), .val (.int ((0 : Int32) + (1 : Int32))), .val (.int (((0 : Int32) + (1 : Int32)) + (1 : Int32))), .val (.int (1 : Int32)), .unset, .unset, .unset, .unset, .unset, .unset] [(.int (2 : Int32)), (.int (2 : Int32))])) _
      refine XS.icmpNo X95.here hx rfl (hb hby at_95) rfl (XT.ii_ne_f (by decide)) ?_
      show Steps p.tables e below (T95.setTop (mkF m 98 #[.val (.int g0), .val (.int x0), .val (.int d0), .val (.int (2 : Int32)), .val (.int xx), .val (.int yy), .val (.ref a1), .val (.int (0 : Int32)), .val (.int ((0 : Int32) + (1 : Int32))), .val (.int (((0 : Int32) + (1 : Int32)) + (1 : Int32))), .val (.int (1 : Int32)), .unset, .unset, .unset, .unset, .unset, .unset] [])) _
      refine XS.aload X95.here hx rfl (hb hby at_98) rfl rfl ?_
      show Steps p.tables e below (T95.setTop (mkF m 100 #[.val (.int g0), .val (.int x0), .val (.int d0), .val (.int (2 : Int32)), .val (.int xx), .val (.int yy), .val (.ref a1), .val (.int (0 : Int32)), .val (.int ((0 : Int32) + (1 : Int32))), .val (.int (((0 : Int32) + (1 : Int32)) + (1 : Int32))), .val (.int (1 : Int32)), .unset, .unset, .unset, .unset, .unset, .unset] [(.ref a1)])) _
      refine XS.iload X95.here hx rfl (hb hby at_100) rfl ?_
      show Steps p.tables e below (T95.setTop (mkF m 102 #[.val (.int g0), .val (.int x0), .val (.int d0), .val (.int (2 : Int32)), .val (.int xx), .val (.int yy), .val (.ref a1), .val (.int (0 : Int32)), .val (.int ((0 : Int32) + (1 : Int32))), .val (.int (((0 : Int32) + (1 : Int32)) + (1 : Int32))), .val (.int (1 : Int32)), .unset, .unset, .unset, .unset, .unset, .unset] [(.int yy), (.ref a1)])) _
      exact k
    obtain ⟨cq101, kq101, q101a, q101b, q101c⟩ := isOf hZ e95 E97_0
    obtain ⟨_, _, ⟨T101, L101, k101, n101⟩, -, X101, ⟨Lc101, hQ101, l101, y101, z101⟩, st101⟩ := X95.virtualBack hx (y := (⟨"com/example/hasselt/hasselt/storage/Numbers", "giveBack", "(I)V"⟩ : MethodName)) (z := (⟨"com/example/hasselt/hasselt/storage/Numbers", "giveBack", "(I)V"⟩ : MethodName)) hown (mvT hZ (hw _ (List.mem_of_getElem? (i := 27) rfl))) (mvT hZ (hw _ (List.mem_of_getElem? (i := 28) rfl))) (notFace_of_selects (args := #[]) (mvT hZ (hw _ (List.mem_of_getElem? (i := 30) rfl)))) (mvT hZ (hw _ (List.mem_of_getElem? (i := 30) rfl))) (mvT hZ (hw _ (List.mem_of_getElem? (i := 29) rfl))) (by decide) (backOf (W := 0) (rm5 l Z a0 hw [] a1 yy fa ((0 : Int32) + (1 : Int32)) ((((0 : Int32) + (1 : Int32)) + (1 : Int32)) + (1 : Int32)) kk [(.int xx), (.int (0 : Int32)), (.int (0 : Int32)), (.int (0 : Int32)), (.int (0 : Int32)), (.int (0 : Int32)), (.int (0 : Int32)), (.int (0 : Int32))] 1 h95 n0 Z97 E97_0 g_a1 Fa95 Fb95 Fc95 Vb95 ne_a1_fa g_fa (by decide) (by decide) (by decide) (by decide : 1 < 8)) hZ (hw _ (List.mem_of_getElem? (i := 31) rfl)) (hw _ (List.mem_of_getElem? (i := 3) rfl)) (by decide) (by decide)) q101a q101c (g := (mkF m 102 #[.val (.int g0), .val (.int x0), .val (.int d0), .val (.int (2 : Int32)), .val (.int xx), .val (.int yy), .val (.ref a1), .val (.int (0 : Int32)), .val (.int ((0 : Int32) + (1 : Int32))), .val (.int (((0 : Int32) + (1 : Int32)) + (1 : Int32))), .val (.int (1 : Int32)), .unset, .unset, .unset, .unset, .unset, .unset] [(.int yy), (.ref a1)])) rfl (by rw [hml]; rfl) (Steps.refl _) (argsL := [(.int yy)]) (rest := []) (lenOf pd_give rfl) rfl (by show 2 * 0 + _ ≤ _; exact Nat.le_of_eq rfl) (hb hby at_102) (fun _ _ => ⟨rfl, e95, (by decide : 2 + 0 ≤ _), (by decide : 11 + 0 ≤ _)⟩)
    dsimp only [Pt.U, Pt.locs, Pt.cells, Pt.slots] at X101 l101 y101 z101 st101 hQ101
    subst l101 y101 z101
    obtain ⟨rfl, Nq101, Kq101, Fa101, Fb101, Fc101, Va101⟩ := hQ101
    have N101 := Fr.app N95 Nq101
    have pre102 : ∀ t, Steps p.tables e below (T101.setTop (mkF m 105 #[.val (.int g0), .val (.int x0), .val (.int d0), .val (.int (2 : Int32)), .val (.int xx), .val (.int yy), .val (.ref a1), .val (.int (0 : Int32)), .val (.int ((0 : Int32) + (1 : Int32))), .val (.int (((0 : Int32) + (1 : Int32)) + (1 : Int32))), .val (.int (1 : Int32)), .unset, .unset, .unset, .unset, .unset, .unset] [])) t → Steps p.tables e below (s₁.setTop (entryFrame m #[(.int g0), (.int x0), (.int d0)] maxLocals)) t := fun t k => pre99 t (st101.trans k)
    obtain ⟨h101, e101⟩ : ∃ z, T101.heap = z := ⟨_, rfl⟩
    rw [e101] at Kq101 Fa101 Fb101 Fc101 Va101
    have Vb101 : Arv Z h101 fa kk .int (8 : Int32) [(.int xx), (.int yy), (.int (0 : Int32)), (.int (0 : Int32)), (.int (0 : Int32)), (.int (0 : Int32)), (.int (0 : Int32)), (.int (0 : Int32))] (.int (0 : Int32)) := Va101
    have E103_0 : Exa Z h101 a1 "com/example/hasselt/hasselt/storage/Numbers" := (E97_0.keep Kq101)
    have Z103 : n0 ≤ h101.size := (Nat.le_trans Z97 Kq101.1)
    have pre105 : ∀ t, Steps p.tables e below (T101.setTop (mkF m 107 #[.val (.int g0), .val (.int x0), .val (.int d0), .val (.int (2 : Int32)), .val (.int xx), .val (.int yy), .val (.ref a1), .val (.int (0 : Int32)), .val (.int ((0 : Int32) + (1 : Int32))), .val (.int (((0 : Int32) + (1 : Int32)) + (1 : Int32))), .val (.int (1 : Int32)), .unset, .unset, .unset, .unset, .unset, .unset] [(.ref a1)])) t → Steps p.tables e below (s₁.setTop (entryFrame m #[(.int g0), (.int x0), (.int d0)] maxLocals)) t := by
      intro t k
      refine pre102 t ?_
      refine XS.aload X101.here hx rfl (hb hby at_105) rfl rfl ?_
      show Steps p.tables e below (T101.setTop (mkF m 107 #[.val (.int g0), .val (.int x0), .val (.int d0), .val (.int (2 : Int32)), .val (.int xx), .val (.int yy), .val (.ref a1), .val (.int (0 : Int32)), .val (.int ((0 : Int32) + (1 : Int32))), .val (.int (((0 : Int32) + (1 : Int32)) + (1 : Int32))), .val (.int (1 : Int32)), .unset, .unset, .unset, .unset, .unset, .unset] [(.ref a1)])) _
      exact k
    obtain ⟨cq107, kq107, q107a, q107b, q107c⟩ := isOf hZ e101 E103_0
    obtain ⟨_, _, ⟨T107, L107, k107, n107⟩, -, X107, ⟨Lc107, hQ107, l107, y107, z107⟩, st107⟩ := X101.virtualBack hx (y := (⟨"com/example/hasselt/hasselt/storage/Numbers", "take", "()I"⟩ : MethodName)) (z := (⟨"com/example/hasselt/hasselt/storage/Numbers", "take", "()I"⟩ : MethodName)) hown (mvT hZ (hw _ (List.mem_of_getElem? (i := 13) rfl))) (mvT hZ (hw _ (List.mem_of_getElem? (i := 14) rfl))) (notFace_of_selects (args := #[]) (mvT hZ (hw _ (List.mem_of_getElem? (i := 16) rfl)))) (mvT hZ (hw _ (List.mem_of_getElem? (i := 16) rfl))) (mvT hZ (hw _ (List.mem_of_getElem? (i := 15) rfl))) (by decide) (backOf (W := 0) (rm3b l Z a0 hw [] a1 fa (((0 : Int32) + (1 : Int32)) + (1 : Int32)) ((((0 : Int32) + (1 : Int32)) + (1 : Int32)) + (1 : Int32)) kk [(.int xx), (.int yy), (.int (0 : Int32)), (.int (0 : Int32)), (.int (0 : Int32)), (.int (0 : Int32)), (.int (0 : Int32)), (.int (0 : Int32))] yy h101 n0 Z103 E103_0 g_a1 Fa101 Fb101 Fc101 Vb101 ne_a1_fa (by decide) (by decide) rfl) hZ (hw _ (List.mem_of_getElem? (i := 17) rfl)) (hw _ (List.mem_of_getElem? (i := 3) rfl)) (by decide) (by decide)) q107a q107c (g := (mkF m 107 #[.val (.int g0), .val (.int x0), .val (.int d0), .val (.int (2 : Int32)), .val (.int xx), .val (.int yy), .val (.ref a1), .val (.int (0 : Int32)), .val (.int ((0 : Int32) + (1 : Int32))), .val (.int (((0 : Int32) + (1 : Int32)) + (1 : Int32))), .val (.int (1 : Int32)), .unset, .unset, .unset, .unset, .unset, .unset] [(.ref a1)])) rfl (by rw [hml]; rfl) (Steps.refl _) (argsL := []) (rest := []) (lenOf pd_i rfl) rfl (by show 2 * 0 + _ ≤ _; exact Nat.le_of_eq rfl) (hb hby at_107) (fun _ _ => ⟨rfl, e101, (by decide : 2 + 0 ≤ _), (by decide : 11 + 0 ≤ _)⟩)
    dsimp only [Pt.U, Pt.locs, Pt.cells, Pt.slots] at X107 l107 y107 z107 st107 hQ107
    subst l107 y107 z107
    obtain ⟨rfl, Nq107, Kq107, Fa107, Fb107, Fc107⟩ := hQ107
    have N107 := Fr.app N101 Nq107
    have pre108 : ∀ t, Steps p.tables e below (T107.setTop (mkF m 110 #[.val (.int g0), .val (.int x0), .val (.int d0), .val (.int (2 : Int32)), .val (.int xx), .val (.int yy), .val (.ref a1), .val (.int (0 : Int32)), .val (.int ((0 : Int32) + (1 : Int32))), .val (.int (((0 : Int32) + (1 : Int32)) + (1 : Int32))), .val (.int (1 : Int32)), .unset, .unset, .unset, .unset, .unset, .unset] [(.int yy)])) t → Steps p.tables e below (s₁.setTop (entryFrame m #[(.int g0), (.int x0), (.int d0)] maxLocals)) t := fun t k => pre105 t (st107.trans k)
    obtain ⟨h107, e107⟩ : ∃ z, T107.heap = z := ⟨_, rfl⟩
    rw [e107] at Kq107 Fa107 Fb107 Fc107
    have E109_0 : Exa Z h107 a1 "com/example/hasselt/hasselt/storage/Numbers" := (E103_0.keep Kq107)
    have V109_0 : Arv Z h107 fa kk .int (8 : Int32) [(.int xx), (.int yy), (.int (0 : Int32)), (.int (0 : Int32)), (.int (0 : Int32)), (.int (0 : Int32)), (.int (0 : Int32)), (.int (0 : Int32))] (.int (0 : Int32)) := (Vb101.keep Kq107 (ninS ne_a1_fa.symm nin0))
    have Z109 : n0 ≤ h107.size := (Nat.le_trans Z103 Kq107.1)
    have pre111 : ∀ t, Steps p.tables e below (T107.setTop (mkF m 114 #[.val (.int g0), .val (.int x0), .val (.int d0), .val (.int (2 : Int32)), .val (.int xx), .val (.int yy), .val (.ref a1), .val (.int (0 : Int32)), .val (.int ((0 : Int32) + (1 : Int32))), .val (.int (((0 : Int32) + (1 : Int32)) + (1 : Int32))), .val (.int (1 : Int32)), .val (.int yy), .unset, .unset, .unset, .unset, .unset] [(.ref a1)])) t → Steps p.tables e below (s₁.setTop (entryFrame m #[(.int g0), (.int x0), (.int d0)] maxLocals)) t := by
      intro t k
      refine pre108 t ?_
      refine XS.istore X107.here hx rfl (hb hby at_110) rfl (l' := #[.val (.int g0), .val (.int x0), .val (.int d0), .val (.int (2 : Int32)), .val (.int xx), .val (.int yy), .val (.ref a1), .val (.int (0 : Int32)), .val (.int ((0 : Int32) + (1 : Int32))), .val (.int (((0 : Int32) + (1 : Int32)) + (1 : Int32))), .val (.int (1 : Int32)), .val (.int yy), .unset, .unset, .unset, .unset, .unset]) rfl ?_
      show Steps p.tables e below (T107.setTop (mkF m 112 #[.val (.int g0), .val (.int x0), .val (.int d0), .val (.int (2 : Int32)), .val (.int xx), .val (.int yy), .val (.ref a1), .val (.int (0 : Int32)), .val (.int ((0 : Int32) + (1 : Int32))), .val (.int (((0 : Int32) + (1 : Int32)) + (1 : Int32))), .val (.int (1 : Int32)), .val (.int yy), .unset, .unset, .unset, .unset, .unset] [])) _
      refine XS.aload X107.here hx rfl (hb hby at_112) rfl rfl ?_
      show Steps p.tables e below (T107.setTop (mkF m 114 #[.val (.int g0), .val (.int x0), .val (.int d0), .val (.int (2 : Int32)), .val (.int xx), .val (.int yy), .val (.ref a1), .val (.int (0 : Int32)), .val (.int ((0 : Int32) + (1 : Int32))), .val (.int (((0 : Int32) + (1 : Int32)) + (1 : Int32))), .val (.int (1 : Int32)), .val (.int yy), .unset, .unset, .unset, .unset, .unset] [(.ref a1)])) _
      exact k
    obtain ⟨cq113, kq113, q113a, q113b, q113c⟩ := isOf hZ e107 E109_0
    obtain ⟨_, _, ⟨T113, L113, k113, n113⟩, -, X113, ⟨Lc113, hQ113, l113, y113, z113⟩, st113⟩ := X107.virtualBack hx (y := (⟨"com/example/hasselt/hasselt/storage/Numbers", "take", "()I"⟩ : MethodName)) (z := (⟨"com/example/hasselt/hasselt/storage/Numbers", "take", "()I"⟩ : MethodName)) hown (mvT hZ (hw _ (List.mem_of_getElem? (i := 13) rfl))) (mvT hZ (hw _ (List.mem_of_getElem? (i := 14) rfl))) (notFace_of_selects (args := #[]) (mvT hZ (hw _ (List.mem_of_getElem? (i := 16) rfl)))) (mvT hZ (hw _ (List.mem_of_getElem? (i := 16) rfl))) (mvT hZ (hw _ (List.mem_of_getElem? (i := 15) rfl))) (by decide) (backOf (W := 0) (rm3b l Z a0 hw [] a1 fa ((((0 : Int32) + (1 : Int32)) + (1 : Int32)) - (1 : Int32)) ((((0 : Int32) + (1 : Int32)) + (1 : Int32)) + (1 : Int32)) kk [(.int xx), (.int yy), (.int (0 : Int32)), (.int (0 : Int32)), (.int (0 : Int32)), (.int (0 : Int32)), (.int (0 : Int32)), (.int (0 : Int32))] xx h107 n0 Z109 E109_0 g_a1 Fa107 Fb107 Fc107 V109_0 ne_a1_fa (by decide) (by decide) rfl) hZ (hw _ (List.mem_of_getElem? (i := 17) rfl)) (hw _ (List.mem_of_getElem? (i := 3) rfl)) (by decide) (by decide)) q113a q113c (g := (mkF m 114 #[.val (.int g0), .val (.int x0), .val (.int d0), .val (.int (2 : Int32)), .val (.int xx), .val (.int yy), .val (.ref a1), .val (.int (0 : Int32)), .val (.int ((0 : Int32) + (1 : Int32))), .val (.int (((0 : Int32) + (1 : Int32)) + (1 : Int32))), .val (.int (1 : Int32)), .val (.int yy), .unset, .unset, .unset, .unset, .unset] [(.ref a1)])) rfl (by rw [hml]; rfl) (Steps.refl _) (argsL := []) (rest := []) (lenOf pd_i rfl) rfl (by show 2 * 0 + _ ≤ _; exact Nat.le_of_eq rfl) (hb hby at_114) (fun _ _ => ⟨rfl, e107, (by decide : 2 + 0 ≤ _), (by decide : 11 + 0 ≤ _)⟩)
    dsimp only [Pt.U, Pt.locs, Pt.cells, Pt.slots] at X113 l113 y113 z113 st113 hQ113
    subst l113 y113 z113
    obtain ⟨rfl, Nq113, Kq113, Fa113, Fb113, Fc113⟩ := hQ113
    have N113 := Fr.app N107 Nq113
    have pre114 : ∀ t, Steps p.tables e below (T113.setTop (mkF m 117 #[.val (.int g0), .val (.int x0), .val (.int d0), .val (.int (2 : Int32)), .val (.int xx), .val (.int yy), .val (.ref a1), .val (.int (0 : Int32)), .val (.int ((0 : Int32) + (1 : Int32))), .val (.int (((0 : Int32) + (1 : Int32)) + (1 : Int32))), .val (.int (1 : Int32)), .val (.int yy), .unset, .unset, .unset, .unset, .unset] [(.int xx)])) t → Steps p.tables e below (s₁.setTop (entryFrame m #[(.int g0), (.int x0), (.int d0)] maxLocals)) t := fun t k => pre111 t (st113.trans k)
    obtain ⟨h113, e113⟩ : ∃ z, T113.heap = z := ⟨_, rfl⟩
    rw [e113] at Kq113 Fa113 Fb113 Fc113
    have E115_0 : Exa Z h113 a1 "com/example/hasselt/hasselt/storage/Numbers" := (E109_0.keep Kq113)
    have V115_0 : Arv Z h113 fa kk .int (8 : Int32) [(.int xx), (.int yy), (.int (0 : Int32)), (.int (0 : Int32)), (.int (0 : Int32)), (.int (0 : Int32)), (.int (0 : Int32)), (.int (0 : Int32))] (.int (0 : Int32)) := (V109_0.keep Kq113 (ninS ne_a1_fa.symm nin0))
    have Z115 : n0 ≤ h113.size := (Nat.le_trans Z109 Kq113.1)
    have pre117 : ∀ t, Steps p.tables e below (T113.setTop (mkF m 121 #[.val (.int g0), .val (.int x0), .val (.int d0), .val (.int (2 : Int32)), .val (.int xx), .val (.int yy), .val (.ref a1), .val (.int (0 : Int32)), .val (.int ((0 : Int32) + (1 : Int32))), .val (.int (((0 : Int32) + (1 : Int32)) + (1 : Int32))), .val (.int (1 : Int32)), .val (.int yy), .val (.int xx), .unset, .unset, .unset, .unset] [(.ref a1)])) t → Steps p.tables e below (s₁.setTop (entryFrame m #[(.int g0), (.int x0), (.int d0)] maxLocals)) t := by
      intro t k
      refine pre114 t ?_
      refine XS.istore X113.here hx rfl (hb hby at_117) rfl (l' := #[.val (.int g0), .val (.int x0), .val (.int d0), .val (.int (2 : Int32)), .val (.int xx), .val (.int yy), .val (.ref a1), .val (.int (0 : Int32)), .val (.int ((0 : Int32) + (1 : Int32))), .val (.int (((0 : Int32) + (1 : Int32)) + (1 : Int32))), .val (.int (1 : Int32)), .val (.int yy), .val (.int xx), .unset, .unset, .unset, .unset]) rfl ?_
      show Steps p.tables e below (T113.setTop (mkF m 119 #[.val (.int g0), .val (.int x0), .val (.int d0), .val (.int (2 : Int32)), .val (.int xx), .val (.int yy), .val (.ref a1), .val (.int (0 : Int32)), .val (.int ((0 : Int32) + (1 : Int32))), .val (.int (((0 : Int32) + (1 : Int32)) + (1 : Int32))), .val (.int (1 : Int32)), .val (.int yy), .val (.int xx), .unset, .unset, .unset, .unset] [])) _
      refine XS.aload X113.here hx rfl (hb hby at_119) rfl rfl ?_
      show Steps p.tables e below (T113.setTop (mkF m 121 #[.val (.int g0), .val (.int x0), .val (.int d0), .val (.int (2 : Int32)), .val (.int xx), .val (.int yy), .val (.ref a1), .val (.int (0 : Int32)), .val (.int ((0 : Int32) + (1 : Int32))), .val (.int (((0 : Int32) + (1 : Int32)) + (1 : Int32))), .val (.int (1 : Int32)), .val (.int yy), .val (.int xx), .unset, .unset, .unset, .unset] [(.ref a1)])) _
      exact k
    obtain ⟨cq119, kq119, q119a, q119b, q119c⟩ := isOf hZ e113 E115_0
    obtain ⟨_, _, ⟨T119, L119, k119, n119⟩, -, X119, ⟨Lc119, hQ119, l119, y119, z119⟩, st119⟩ := X113.virtualBack hx (y := (⟨"com/example/hasselt/hasselt/storage/Numbers", "take", "()I"⟩ : MethodName)) (z := (⟨"com/example/hasselt/hasselt/storage/Numbers", "take", "()I"⟩ : MethodName)) hown (mvT hZ (hw _ (List.mem_of_getElem? (i := 13) rfl))) (mvT hZ (hw _ (List.mem_of_getElem? (i := 14) rfl))) (notFace_of_selects (args := #[]) (mvT hZ (hw _ (List.mem_of_getElem? (i := 16) rfl)))) (mvT hZ (hw _ (List.mem_of_getElem? (i := 16) rfl))) (mvT hZ (hw _ (List.mem_of_getElem? (i := 15) rfl))) (by decide) (backOf (W := 0) (rm3a l Z a0 hw [] a1 fa (((((0 : Int32) + (1 : Int32)) + (1 : Int32)) - (1 : Int32)) - (1 : Int32)) ((((0 : Int32) + (1 : Int32)) + (1 : Int32)) + (1 : Int32)) h113 n0 Z115 E115_0 g_a1 Fa113 Fb113 Fc113 (by decide)) hZ (hw _ (List.mem_of_getElem? (i := 17) rfl)) (hw _ (List.mem_of_getElem? (i := 3) rfl)) (by decide) (by decide)) q119a q119c (g := (mkF m 121 #[.val (.int g0), .val (.int x0), .val (.int d0), .val (.int (2 : Int32)), .val (.int xx), .val (.int yy), .val (.ref a1), .val (.int (0 : Int32)), .val (.int ((0 : Int32) + (1 : Int32))), .val (.int (((0 : Int32) + (1 : Int32)) + (1 : Int32))), .val (.int (1 : Int32)), .val (.int yy), .val (.int xx), .unset, .unset, .unset, .unset] [(.ref a1)])) rfl (by rw [hml]; rfl) (Steps.refl _) (argsL := []) (rest := []) (lenOf pd_i rfl) rfl (by show 2 * 0 + _ ≤ _; exact Nat.le_of_eq rfl) (hb hby at_121) (fun _ _ => ⟨rfl, e113, (by decide : 2 + 0 ≤ _), (by decide : 11 + 0 ≤ _)⟩)
    dsimp only [Pt.U, Pt.locs, Pt.cells, Pt.slots] at X119 l119 y119 z119 st119 hQ119
    subst l119 y119 z119
    obtain ⟨rfl, Nq119, Kq119, Fa119, Fb119, Fc119⟩ := hQ119
    have N119 := Fr.app N113 Nq119
    have pre120 : ∀ t, Steps p.tables e below (T119.setTop (mkF m 124 #[.val (.int g0), .val (.int x0), .val (.int d0), .val (.int (2 : Int32)), .val (.int xx), .val (.int yy), .val (.ref a1), .val (.int (0 : Int32)), .val (.int ((0 : Int32) + (1 : Int32))), .val (.int (((0 : Int32) + (1 : Int32)) + (1 : Int32))), .val (.int (1 : Int32)), .val (.int yy), .val (.int xx), .unset, .unset, .unset, .unset] [(.int ((((0 : Int32) + (1 : Int32)) + (1 : Int32)) + (1 : Int32)))])) t → Steps p.tables e below (s₁.setTop (entryFrame m #[(.int g0), (.int x0), (.int d0)] maxLocals)) t := fun t k => pre117 t (st119.trans k)
    obtain ⟨h119, e119⟩ : ∃ z, T119.heap = z := ⟨_, rfl⟩
    rw [e119] at Kq119 Fa119 Fb119 Fc119
    have E121_0 : Exa Z h119 a1 "com/example/hasselt/hasselt/storage/Numbers" := (E115_0.keep Kq119)
    have V121_0 : Arv Z h119 fa kk .int (8 : Int32) [(.int xx), (.int yy), (.int (0 : Int32)), (.int (0 : Int32)), (.int (0 : Int32)), (.int (0 : Int32)), (.int (0 : Int32)), (.int (0 : Int32))] (.int (0 : Int32)) := (V115_0.keep Kq119 (ninS ne_a1_fa.symm nin0))
    have Z121 : n0 ≤ h119.size := (Nat.le_trans Z115 Kq119.1)
    have pre123 : ∀ t, Steps p.tables e below (T119.setTop (mkF m 200 #[.val (.int g0), .val (.int x0), .val (.int d0), .val (.int (2 : Int32)), .val (.int xx), .val (.int yy), .val (.ref a1), .val (.int (0 : Int32)), .val (.int ((0 : Int32) + (1 : Int32))), .val (.int (((0 : Int32) + (1 : Int32)) + (1 : Int32))), .val (.int (1 : Int32)), .val (.int yy), .val (.int xx), .val (.int ((((0 : Int32) + (1 : Int32)) + (1 : Int32)) + (1 : Int32))), .val (.int yy), .val (.int xx), .val (.int (3 : Int32))] [(.ref a1)])) t → Steps p.tables e below (s₁.setTop (entryFrame m #[(.int g0), (.int x0), (.int d0)] maxLocals)) t := by
      intro t k
      refine pre120 t ?_
      refine XS.istore X119.here hx rfl (hb hby at_124) rfl (l' := #[.val (.int g0), .val (.int x0), .val (.int d0), .val (.int (2 : Int32)), .val (.int xx), .val (.int yy), .val (.ref a1), .val (.int (0 : Int32)), .val (.int ((0 : Int32) + (1 : Int32))), .val (.int (((0 : Int32) + (1 : Int32)) + (1 : Int32))), .val (.int (1 : Int32)), .val (.int yy), .val (.int xx), .val (.int ((((0 : Int32) + (1 : Int32)) + (1 : Int32)) + (1 : Int32))), .unset, .unset, .unset]) rfl ?_
      show Steps p.tables e below (T119.setTop (mkF m 126 #[.val (.int g0), .val (.int x0), .val (.int d0), .val (.int (2 : Int32)), .val (.int xx), .val (.int yy), .val (.ref a1), .val (.int (0 : Int32)), .val (.int ((0 : Int32) + (1 : Int32))), .val (.int (((0 : Int32) + (1 : Int32)) + (1 : Int32))), .val (.int (1 : Int32)), .val (.int yy), .val (.int xx), .val (.int ((((0 : Int32) + (1 : Int32)) + (1 : Int32)) + (1 : Int32))), .unset, .unset, .unset] [])) _
      refine XS.iloadN X119.here hx rfl (hb hby at_126) rfl ?_
      show Steps p.tables e below (T119.setTop (mkF m 127 #[.val (.int g0), .val (.int x0), .val (.int d0), .val (.int (2 : Int32)), .val (.int xx), .val (.int yy), .val (.ref a1), .val (.int (0 : Int32)), .val (.int ((0 : Int32) + (1 : Int32))), .val (.int (((0 : Int32) + (1 : Int32)) + (1 : Int32))), .val (.int (1 : Int32)), .val (.int yy), .val (.int xx), .val (.int ((((0 : Int32) + (1 : Int32)) + (1 : Int32)) + (1 : Int32))), .unset, .unset, .unset] [(.int (2 : Int32))])) _
      refine XS.iconst X119.here hx rfl (hb hby at_127) ?_
      show Steps p.tables e below (T119.setTop (mkF m 128 #[.val (.int g0), .val (.int x0), .val (.int d0), .val (.int (2 : Int32)), .val (.int xx), .val (.int yy), .val (.ref a1), .val (.int (0 : Int32)), .val (.int ((0 : Int32) + (1 : Int32))), .val (.int (((0 : Int32) + (1 : Int32)) + (1 : Int32))), .val (.int (1 : Int32)), .val (.int yy), .val (.int xx), .val (.int ((((0 : Int32) + (1 : Int32)) + (1 : Int32)) + (1 : Int32))), .unset, .unset, .unset] [(.int (2 : Int32)), (.int (2 : Int32))])) _
      refine XS.icmpNo X119.here hx rfl (hb hby at_128) rfl (XT.ii_ne_f (by decide)) ?_
      show Steps p.tables e below (T119.setTop (mkF m 131 #[.val (.int g0), .val (.int x0), .val (.int d0), .val (.int (2 : Int32)), .val (.int xx), .val (.int yy), .val (.ref a1), .val (.int (0 : Int32)), .val (.int ((0 : Int32) + (1 : Int32))), .val (.int (((0 : Int32) + (1 : Int32)) + (1 : Int32))), .val (.int (1 : Int32)), .val (.int yy), .val (.int xx), .val (.int ((((0 : Int32) + (1 : Int32)) + (1 : Int32)) + (1 : Int32))), .unset, .unset, .unset] [])) _
      refine XS.iload X119.here hx rfl (hb hby at_131) rfl ?_
      show Steps p.tables e below (T119.setTop (mkF m 133 #[.val (.int g0), .val (.int x0), .val (.int d0), .val (.int (2 : Int32)), .val (.int xx), .val (.int yy), .val (.ref a1), .val (.int (0 : Int32)), .val (.int ((0 : Int32) + (1 : Int32))), .val (.int (((0 : Int32) + (1 : Int32)) + (1 : Int32))), .val (.int (1 : Int32)), .val (.int yy), .val (.int xx), .val (.int ((((0 : Int32) + (1 : Int32)) + (1 : Int32)) + (1 : Int32))), .unset, .unset, .unset] [(.int yy)])) _
      refine XS.istore X119.here hx rfl (hb hby at_133) rfl (l' := #[.val (.int g0), .val (.int x0), .val (.int d0), .val (.int (2 : Int32)), .val (.int xx), .val (.int yy), .val (.ref a1), .val (.int (0 : Int32)), .val (.int ((0 : Int32) + (1 : Int32))), .val (.int (((0 : Int32) + (1 : Int32)) + (1 : Int32))), .val (.int (1 : Int32)), .val (.int yy), .val (.int xx), .val (.int ((((0 : Int32) + (1 : Int32)) + (1 : Int32)) + (1 : Int32))), .val (.int yy), .unset, .unset]) rfl ?_
      show Steps p.tables e below (T119.setTop (mkF m 135 #[.val (.int g0), .val (.int x0), .val (.int d0), .val (.int (2 : Int32)), .val (.int xx), .val (.int yy), .val (.ref a1), .val (.int (0 : Int32)), .val (.int ((0 : Int32) + (1 : Int32))), .val (.int (((0 : Int32) + (1 : Int32)) + (1 : Int32))), .val (.int (1 : Int32)), .val (.int yy), .val (.int xx), .val (.int ((((0 : Int32) + (1 : Int32)) + (1 : Int32)) + (1 : Int32))), .val (.int yy), .unset, .unset] [])) _
      refine XS.iload X119.here hx rfl (hb hby at_135) rfl ?_
      show Steps p.tables e below (T119.setTop (mkF m 137 #[.val (.int g0), .val (.int x0), .val (.int d0), .val (.int (2 : Int32)), .val (.int xx), .val (.int yy), .val (.ref a1), .val (.int (0 : Int32)), .val (.int ((0 : Int32) + (1 : Int32))), .val (.int (((0 : Int32) + (1 : Int32)) + (1 : Int32))), .val (.int (1 : Int32)), .val (.int yy), .val (.int xx), .val (.int ((((0 : Int32) + (1 : Int32)) + (1 : Int32)) + (1 : Int32))), .val (.int yy), .unset, .unset] [(.int xx)])) _
      refine XS.istore X119.here hx rfl (hb hby at_137) rfl (l' := #[.val (.int g0), .val (.int x0), .val (.int d0), .val (.int (2 : Int32)), .val (.int xx), .val (.int yy), .val (.ref a1), .val (.int (0 : Int32)), .val (.int ((0 : Int32) + (1 : Int32))), .val (.int (((0 : Int32) + (1 : Int32)) + (1 : Int32))), .val (.int (1 : Int32)), .val (.int yy), .val (.int xx), .val (.int ((((0 : Int32) + (1 : Int32)) + (1 : Int32)) + (1 : Int32))), .val (.int yy), .val (.int xx), .unset]) rfl ?_
      show Steps p.tables e below (T119.setTop (mkF m 139 #[.val (.int g0), .val (.int x0), .val (.int d0), .val (.int (2 : Int32)), .val (.int xx), .val (.int yy), .val (.ref a1), .val (.int (0 : Int32)), .val (.int ((0 : Int32) + (1 : Int32))), .val (.int (((0 : Int32) + (1 : Int32)) + (1 : Int32))), .val (.int (1 : Int32)), .val (.int yy), .val (.int xx), .val (.int ((((0 : Int32) + (1 : Int32)) + (1 : Int32)) + (1 : Int32))), .val (.int yy), .val (.int xx), .unset] [])) _
      refine XS.iconst X119.here hx rfl (hb hby at_139) ?_
      show Steps p.tables e below (T119.setTop (mkF m 140 #[.val (.int g0), .val (.int x0), .val (.int d0), .val (.int (2 : Int32)), .val (.int xx), .val (.int yy), .val (.ref a1), .val (.int (0 : Int32)), .val (.int ((0 : Int32) + (1 : Int32))), .val (.int (((0 : Int32) + (1 : Int32)) + (1 : Int32))), .val (.int (1 : Int32)), .val (.int yy), .val (.int xx), .val (.int ((((0 : Int32) + (1 : Int32)) + (1 : Int32)) + (1 : Int32))), .val (.int yy), .val (.int xx), .unset] [(.int (3 : Int32))])) _
      refine XS.istore X119.here hx rfl (hb hby at_140) rfl (l' := #[.val (.int g0), .val (.int x0), .val (.int d0), .val (.int (2 : Int32)), .val (.int xx), .val (.int yy), .val (.ref a1), .val (.int (0 : Int32)), .val (.int ((0 : Int32) + (1 : Int32))), .val (.int (((0 : Int32) + (1 : Int32)) + (1 : Int32))), .val (.int (1 : Int32)), .val (.int yy), .val (.int xx), .val (.int ((((0 : Int32) + (1 : Int32)) + (1 : Int32)) + (1 : Int32))), .val (.int yy), .val (.int xx), .val (.int (3 : Int32))]) rfl ?_
      show Steps p.tables e below (T119.setTop (mkF m 142 #[.val (.int g0), .val (.int x0), .val (.int d0), .val (.int (2 : Int32)), .val (.int xx), .val (.int yy), .val (.ref a1), .val (.int (0 : Int32)), .val (.int ((0 : Int32) + (1 : Int32))), .val (.int (((0 : Int32) + (1 : Int32)) + (1 : Int32))), .val (.int (1 : Int32)), .val (.int yy), .val (.int xx), .val (.int ((((0 : Int32) + (1 : Int32)) + (1 : Int32)) + (1 : Int32))), .val (.int yy), .val (.int xx), .val (.int (3 : Int32))] [])) _
      refine XS.goto X119.here hx rfl (pc0 := 142) (pc' := 172) rfl (hb hby at_142) (by decide) (by decide) ?_
      show Steps p.tables e below (T119.setTop (mkF m 172 #[.val (.int g0), .val (.int x0), .val (.int d0), .val (.int (2 : Int32)), .val (.int xx), .val (.int yy), .val (.ref a1), .val (.int (0 : Int32)), .val (.int ((0 : Int32) + (1 : Int32))), .val (.int (((0 : Int32) + (1 : Int32)) + (1 : Int32))), .val (.int (1 : Int32)), .val (.int yy), .val (.int xx), .val (.int ((((0 : Int32) + (1 : Int32)) + (1 : Int32)) + (1 : Int32))), .val (.int yy), .val (.int xx), .val (.int (3 : Int32))] [])) _
      refine XS.iload X119.here hx rfl (hb hby at_172) rfl ?_
      show Steps p.tables e below (T119.setTop (mkF m 174 #[.val (.int g0), .val (.int x0), .val (.int d0), .val (.int (2 : Int32)), .val (.int xx), .val (.int yy), .val (.ref a1), .val (.int (0 : Int32)), .val (.int ((0 : Int32) + (1 : Int32))), .val (.int (((0 : Int32) + (1 : Int32)) + (1 : Int32))), .val (.int (1 : Int32)), .val (.int yy), .val (.int xx), .val (.int ((((0 : Int32) + (1 : Int32)) + (1 : Int32)) + (1 : Int32))), .val (.int yy), .val (.int xx), .val (.int (3 : Int32))] [(.int (1 : Int32))])) _
      refine XS.ifNo X119.here hx rfl (hb hby at_174) rfl (XT.i0_eq_f (by decide)) ?_
      show Steps p.tables e below (T119.setTop (mkF m 177 #[.val (.int g0), .val (.int x0), .val (.int d0), .val (.int (2 : Int32)), .val (.int xx), .val (.int yy), .val (.ref a1), .val (.int (0 : Int32)), .val (.int ((0 : Int32) + (1 : Int32))), .val (.int (((0 : Int32) + (1 : Int32)) + (1 : Int32))), .val (.int (1 : Int32)), .val (.int yy), .val (.int xx), .val (.int ((((0 : Int32) + (1 : Int32)) + (1 : Int32)) + (1 : Int32))), .val (.int yy), .val (.int xx), .val (.int (3 : Int32))] [])) _
      refine XS.iload X119.here hx rfl (hb hby at_177) rfl ?_
      show Steps p.tables e below (T119.setTop (mkF m 179 #[.val (.int g0), .val (.int x0), .val (.int d0), .val (.int (2 : Int32)), .val (.int xx), .val (.int yy), .val (.ref a1), .val (.int (0 : Int32)), .val (.int ((0 : Int32) + (1 : Int32))), .val (.int (((0 : Int32) + (1 : Int32)) + (1 : Int32))), .val (.int (1 : Int32)), .val (.int yy), .val (.int xx), .val (.int ((((0 : Int32) + (1 : Int32)) + (1 : Int32)) + (1 : Int32))), .val (.int yy), .val (.int xx), .val (.int (3 : Int32))] [(.int yy)])) _
      refine XS.iload X119.here hx rfl (hb hby at_179) rfl ?_
      show Steps p.tables e below (T119.setTop (mkF m 181 #[.val (.int g0), .val (.int x0), .val (.int d0), .val (.int (2 : Int32)), .val (.int xx), .val (.int yy), .val (.ref a1), .val (.int (0 : Int32)), .val (.int ((0 : Int32) + (1 : Int32))), .val (.int (((0 : Int32) + (1 : Int32)) + (1 : Int32))), .val (.int (1 : Int32)), .val (.int yy), .val (.int xx), .val (.int ((((0 : Int32) + (1 : Int32)) + (1 : Int32)) + (1 : Int32))), .val (.int yy), .val (.int xx), .val (.int (3 : Int32))] [(.int yy), (.int yy)])) _
      refine XS.icmpNo X119.here hx rfl (hb hby at_181) rfl (XT.ii_ne_f rfl) ?_
      show Steps p.tables e below (T119.setTop (mkF m 184 #[.val (.int g0), .val (.int x0), .val (.int d0), .val (.int (2 : Int32)), .val (.int xx), .val (.int yy), .val (.ref a1), .val (.int (0 : Int32)), .val (.int ((0 : Int32) + (1 : Int32))), .val (.int (((0 : Int32) + (1 : Int32)) + (1 : Int32))), .val (.int (1 : Int32)), .val (.int yy), .val (.int xx), .val (.int ((((0 : Int32) + (1 : Int32)) + (1 : Int32)) + (1 : Int32))), .val (.int yy), .val (.int xx), .val (.int (3 : Int32))] [])) _
      refine XS.iload X119.here hx rfl (hb hby at_184) rfl ?_
      show Steps p.tables e below (T119.setTop (mkF m 186 #[.val (.int g0), .val (.int x0), .val (.int d0), .val (.int (2 : Int32)), .val (.int xx), .val (.int yy), .val (.ref a1), .val (.int (0 : Int32)), .val (.int ((0 : Int32) + (1 : Int32))), .val (.int (((0 : Int32) + (1 : Int32)) + (1 : Int32))), .val (.int (1 : Int32)), .val (.int yy), .val (.int xx), .val (.int ((((0 : Int32) + (1 : Int32)) + (1 : Int32)) + (1 : Int32))), .val (.int yy), .val (.int xx), .val (.int (3 : Int32))] [(.int xx)])) _
      refine XS.iload X119.here hx rfl (hb hby at_186) rfl ?_
      show Steps p.tables e below (T119.setTop (mkF m 188 #[.val (.int g0), .val (.int x0), .val (.int d0), .val (.int (2 : Int32)), .val (.int xx), .val (.int yy), .val (.ref a1), .val (.int (0 : Int32)), .val (.int ((0 : Int32) + (1 : Int32))), .val (.int (((0 : Int32) + (1 : Int32)) + (1 : Int32))), .val (.int (1 : Int32)), .val (.int yy), .val (.int xx), .val (.int ((((0 : Int32) + (1 : Int32)) + (1 : Int32)) + (1 : Int32))), .val (.int yy), .val (.int xx), .val (.int (3 : Int32))] [(.int xx), (.int xx)])) _
      refine XS.icmpNo X119.here hx rfl (hb hby at_188) rfl (XT.ii_ne_f rfl) ?_
      show Steps p.tables e below (T119.setTop (mkF m 191 #[.val (.int g0), .val (.int x0), .val (.int d0), .val (.int (2 : Int32)), .val (.int xx), .val (.int yy), .val (.ref a1), .val (.int (0 : Int32)), .val (.int ((0 : Int32) + (1 : Int32))), .val (.int (((0 : Int32) + (1 : Int32)) + (1 : Int32))), .val (.int (1 : Int32)), .val (.int yy), .val (.int xx), .val (.int ((((0 : Int32) + (1 : Int32)) + (1 : Int32)) + (1 : Int32))), .val (.int yy), .val (.int xx), .val (.int (3 : Int32))] [])) _
      refine XS.iload X119.here hx rfl (hb hby at_191) rfl ?_
      show Steps p.tables e below (T119.setTop (mkF m 193 #[.val (.int g0), .val (.int x0), .val (.int d0), .val (.int (2 : Int32)), .val (.int xx), .val (.int yy), .val (.ref a1), .val (.int (0 : Int32)), .val (.int ((0 : Int32) + (1 : Int32))), .val (.int (((0 : Int32) + (1 : Int32)) + (1 : Int32))), .val (.int (1 : Int32)), .val (.int yy), .val (.int xx), .val (.int ((((0 : Int32) + (1 : Int32)) + (1 : Int32)) + (1 : Int32))), .val (.int yy), .val (.int xx), .val (.int (3 : Int32))] [(.int ((((0 : Int32) + (1 : Int32)) + (1 : Int32)) + (1 : Int32)))])) _
      refine XS.iload X119.here hx rfl (hb hby at_193) rfl ?_
      show Steps p.tables e below (T119.setTop (mkF m 195 #[.val (.int g0), .val (.int x0), .val (.int d0), .val (.int (2 : Int32)), .val (.int xx), .val (.int yy), .val (.ref a1), .val (.int (0 : Int32)), .val (.int ((0 : Int32) + (1 : Int32))), .val (.int (((0 : Int32) + (1 : Int32)) + (1 : Int32))), .val (.int (1 : Int32)), .val (.int yy), .val (.int xx), .val (.int ((((0 : Int32) + (1 : Int32)) + (1 : Int32)) + (1 : Int32))), .val (.int yy), .val (.int xx), .val (.int (3 : Int32))] [(.int (3 : Int32)), (.int ((((0 : Int32) + (1 : Int32)) + (1 : Int32)) + (1 : Int32)))])) _
      refine XS.icmpNo X119.here hx rfl (hb hby at_195) rfl (XT.ii_ne_f (by decide)) ?_
      show Steps p.tables e below (T119.setTop (mkF m 198 #[.val (.int g0), .val (.int x0), .val (.int d0), .val (.int (2 : Int32)), .val (.int xx), .val (.int yy), .val (.ref a1), .val (.int (0 : Int32)), .val (.int ((0 : Int32) + (1 : Int32))), .val (.int (((0 : Int32) + (1 : Int32)) + (1 : Int32))), .val (.int (1 : Int32)), .val (.int yy), .val (.int xx), .val (.int ((((0 : Int32) + (1 : Int32)) + (1 : Int32)) + (1 : Int32))), .val (.int yy), .val (.int xx), .val (.int (3 : Int32))] [])) _
      refine XS.aload X119.here hx rfl (hb hby at_198) rfl rfl ?_
      show Steps p.tables e below (T119.setTop (mkF m 200 #[.val (.int g0), .val (.int x0), .val (.int d0), .val (.int (2 : Int32)), .val (.int xx), .val (.int yy), .val (.ref a1), .val (.int (0 : Int32)), .val (.int ((0 : Int32) + (1 : Int32))), .val (.int (((0 : Int32) + (1 : Int32)) + (1 : Int32))), .val (.int (1 : Int32)), .val (.int yy), .val (.int xx), .val (.int ((((0 : Int32) + (1 : Int32)) + (1 : Int32)) + (1 : Int32))), .val (.int yy), .val (.int xx), .val (.int (3 : Int32))] [(.ref a1)])) _
      exact k
    obtain ⟨cq125, kq125, q125a, q125b, q125c⟩ := isOf hZ e119 E121_0
    obtain ⟨_, _, ⟨T125, L125, k125, n125⟩, -, X125, ⟨Lc125, hQ125, l125, y125, z125⟩, st125⟩ := X119.virtualBack hx (y := (⟨"com/example/hasselt/hasselt/storage/Numbers", "limit", "()I"⟩ : MethodName)) (z := (⟨"com/example/hasselt/hasselt/storage/Numbers", "limit", "()I"⟩ : MethodName)) hown (mvT hZ (hw _ (List.mem_of_getElem? (i := 22) rfl))) (mvT hZ (hw _ (List.mem_of_getElem? (i := 23) rfl))) (notFace_of_selects (args := #[]) (mvT hZ (hw _ (List.mem_of_getElem? (i := 25) rfl)))) (mvT hZ (hw _ (List.mem_of_getElem? (i := 25) rfl))) (mvT hZ (hw _ (List.mem_of_getElem? (i := 24) rfl))) (by decide) (backOf (W := 0) (rm4 l Z a0 hw [] a1 fa (((((0 : Int32) + (1 : Int32)) + (1 : Int32)) - (1 : Int32)) - (1 : Int32)) (((((0 : Int32) + (1 : Int32)) + (1 : Int32)) + (1 : Int32)) + (1 : Int32)) h119 n0 Z121 Fa119 Fb119 Fc119) hZ (hw _ (List.mem_of_getElem? (i := 26) rfl)) (hw _ (List.mem_of_getElem? (i := 3) rfl)) (by decide) (by decide)) q125a q125c (g := (mkF m 200 #[.val (.int g0), .val (.int x0), .val (.int d0), .val (.int (2 : Int32)), .val (.int xx), .val (.int yy), .val (.ref a1), .val (.int (0 : Int32)), .val (.int ((0 : Int32) + (1 : Int32))), .val (.int (((0 : Int32) + (1 : Int32)) + (1 : Int32))), .val (.int (1 : Int32)), .val (.int yy), .val (.int xx), .val (.int ((((0 : Int32) + (1 : Int32)) + (1 : Int32)) + (1 : Int32))), .val (.int yy), .val (.int xx), .val (.int (3 : Int32))] [(.ref a1)])) rfl (by rw [hml]; rfl) (Steps.refl _) (argsL := []) (rest := []) (lenOf pd_i rfl) rfl (by show 2 * 0 + _ ≤ _; exact Nat.le_of_eq rfl) (hb hby at_200) (fun _ _ => ⟨rfl, e119, (by decide : 2 + 0 ≤ _), (by decide : 11 + 0 ≤ _)⟩)
    dsimp only [Pt.U, Pt.locs, Pt.cells, Pt.slots] at X125 l125 y125 z125 st125 hQ125
    subst l125 y125 z125
    obtain ⟨rfl, Nq125, heq125⟩ := hQ125
    have N125 := Fr.app N119 Nq125
    have pre126 : ∀ t, Steps p.tables e below (T125.setTop (mkF m 203 #[.val (.int g0), .val (.int x0), .val (.int d0), .val (.int (2 : Int32)), .val (.int xx), .val (.int yy), .val (.ref a1), .val (.int (0 : Int32)), .val (.int ((0 : Int32) + (1 : Int32))), .val (.int (((0 : Int32) + (1 : Int32)) + (1 : Int32))), .val (.int (1 : Int32)), .val (.int yy), .val (.int xx), .val (.int ((((0 : Int32) + (1 : Int32)) + (1 : Int32)) + (1 : Int32))), .val (.int yy), .val (.int xx), .val (.int (3 : Int32))] [(.int (((((0 : Int32) + (1 : Int32)) + (1 : Int32)) + (1 : Int32)) + (1 : Int32)))])) t → Steps p.tables e below (s₁.setTop (entryFrame m #[(.int g0), (.int x0), (.int d0)] maxLocals)) t := fun t k => pre123 t (st125.trans k)
    have pre127 : ∀ t, Steps p.tables e below (T125.setTop (mkF m 215 #[.val (.int g0), .val (.int x0), .val (.int d0), .val (.int (2 : Int32)), .val (.int xx), .val (.int yy), .val (.ref a1), .val (.int (0 : Int32)), .val (.int ((0 : Int32) + (1 : Int32))), .val (.int (((0 : Int32) + (1 : Int32)) + (1 : Int32))), .val (.int (1 : Int32)), .val (.int yy), .val (.int xx), .val (.int ((((0 : Int32) + (1 : Int32)) + (1 : Int32)) + (1 : Int32))), .val (.int yy), .val (.int xx), .val (.int (3 : Int32))] [(.int (1 : Int32))])) t → Steps p.tables e below (s₁.setTop (entryFrame m #[(.int g0), (.int x0), (.int d0)] maxLocals)) t := by
      intro t k
      refine pre126 t ?_
      refine XS.bipush X125.here hx rfl (hb hby at_203) ?_
      show Steps p.tables e below (T125.setTop (mkF m 205 #[.val (.int g0), .val (.int x0), .val (.int d0), .val (.int (2 : Int32)), .val (.int xx), .val (.int yy), .val (.ref a1), .val (.int (0 : Int32)), .val (.int ((0 : Int32) + (1 : Int32))), .val (.int (((0 : Int32) + (1 : Int32)) + (1 : Int32))), .val (.int (1 : Int32)), .val (.int yy), .val (.int xx), .val (.int ((((0 : Int32) + (1 : Int32)) + (1 : Int32)) + (1 : Int32))), .val (.int yy), .val (.int xx), .val (.int (3 : Int32))] [(.int (6 : Int32)), (.int (((((0 : Int32) + (1 : Int32)) + (1 : Int32)) + (1 : Int32)) + (1 : Int32)))])) _
      refine XS.iloadN X125.here hx rfl (hb hby at_205) rfl ?_
      show Steps p.tables e below (T125.setTop (mkF m 206 #[.val (.int g0), .val (.int x0), .val (.int d0), .val (.int (2 : Int32)), .val (.int xx), .val (.int yy), .val (.ref a1), .val (.int (0 : Int32)), .val (.int ((0 : Int32) + (1 : Int32))), .val (.int (((0 : Int32) + (1 : Int32)) + (1 : Int32))), .val (.int (1 : Int32)), .val (.int yy), .val (.int xx), .val (.int ((((0 : Int32) + (1 : Int32)) + (1 : Int32)) + (1 : Int32))), .val (.int yy), .val (.int xx), .val (.int (3 : Int32))] [(.int (2 : Int32)), (.int (6 : Int32)), (.int (((((0 : Int32) + (1 : Int32)) + (1 : Int32)) + (1 : Int32)) + (1 : Int32)))])) _
      refine XS.isub X125.here hx rfl (hb hby at_206) rfl ?_
      show Steps p.tables e below (T125.setTop (mkF m 207 #[.val (.int g0), .val (.int x0), .val (.int d0), .val (.int (2 : Int32)), .val (.int xx), .val (.int yy), .val (.ref a1), .val (.int (0 : Int32)), .val (.int ((0 : Int32) + (1 : Int32))), .val (.int (((0 : Int32) + (1 : Int32)) + (1 : Int32))), .val (.int (1 : Int32)), .val (.int yy), .val (.int xx), .val (.int ((((0 : Int32) + (1 : Int32)) + (1 : Int32)) + (1 : Int32))), .val (.int yy), .val (.int xx), .val (.int (3 : Int32))] [(.int ((6 : Int32) - (2 : Int32))), (.int (((((0 : Int32) + (1 : Int32)) + (1 : Int32)) + (1 : Int32)) + (1 : Int32)))])) _
      refine XS.icmpNo X125.here hx rfl (hb hby at_207) rfl (XT.ii_ne_f (by decide)) ?_
      show Steps p.tables e below (T125.setTop (mkF m 210 #[.val (.int g0), .val (.int x0), .val (.int d0), .val (.int (2 : Int32)), .val (.int xx), .val (.int yy), .val (.ref a1), .val (.int (0 : Int32)), .val (.int ((0 : Int32) + (1 : Int32))), .val (.int (((0 : Int32) + (1 : Int32)) + (1 : Int32))), .val (.int (1 : Int32)), .val (.int yy), .val (.int xx), .val (.int ((((0 : Int32) + (1 : Int32)) + (1 : Int32)) + (1 : Int32))), .val (.int yy), .val (.int xx), .val (.int (3 : Int32))] [])) _
      refine XS.iconst X125.here hx rfl (hb hby at_210) ?_
      show Steps p.tables e below (T125.setTop (mkF m 211 #[.val (.int g0), .val (.int x0), .val (.int d0), .val (.int (2 : Int32)), .val (.int xx), .val (.int yy), .val (.ref a1), .val (.int (0 : Int32)), .val (.int ((0 : Int32) + (1 : Int32))), .val (.int (((0 : Int32) + (1 : Int32)) + (1 : Int32))), .val (.int (1 : Int32)), .val (.int yy), .val (.int xx), .val (.int ((((0 : Int32) + (1 : Int32)) + (1 : Int32)) + (1 : Int32))), .val (.int yy), .val (.int xx), .val (.int (3 : Int32))] [(.int (1 : Int32))])) _
      refine XS.goto X125.here hx rfl (pc0 := 211) (pc' := 215) rfl (hb hby at_211) (by decide) (by decide) ?_
      show Steps p.tables e below (T125.setTop (mkF m 215 #[.val (.int g0), .val (.int x0), .val (.int d0), .val (.int (2 : Int32)), .val (.int xx), .val (.int yy), .val (.ref a1), .val (.int (0 : Int32)), .val (.int ((0 : Int32) + (1 : Int32))), .val (.int (((0 : Int32) + (1 : Int32)) + (1 : Int32))), .val (.int (1 : Int32)), .val (.int yy), .val (.int xx), .val (.int ((((0 : Int32) + (1 : Int32)) + (1 : Int32)) + (1 : Int32))), .val (.int yy), .val (.int xx), .val (.int (3 : Int32))] [(.int (1 : Int32))])) _
      exact k
    obtain ⟨fs, hr, hrun, hended, hW, hsame⟩ := X125.leave (v := some (.int (1 : Int32))) (fun h => by rw [Bd.returns] at h; cases h)
    refine ⟨_, _, pre127 _ ?_, hrun, hended, _, _, rfl, ?_, ⟨_, rfl⟩, hW, hsame.mono (by decide) (by decide)⟩
    · exact retOut X125 hx Bd.returns rfl (Or.inl ⟨rfl, by simp, _, rfl⟩) (hb hby at_215) hr
    · show Qlaw Z g0 x0 d0 h0 n0 _ T125.heap _
      rw [heq125]
      exact ⟨rfl, N125⟩
set_option maxRecDepth 65536 in
set_option maxHeartbeats 40000000 in
theorem comes_1 {Post : Tables → Env → Array Value → State → Outcome → State → Prop} (hpost : ∀ tb e args s v u, (limb_1_1.after args s (.returned v) u = true ∧ limb_1_2.after args s (.returned v) u = true ∧ True) → FrameEnd s (.returned v) u (Jvm.fieldLocs frame_1_writes args s ++ Jvm.arrayLocs frame_1_arrays args s ++ Jvm.staticLocs frame_1_statics s) 16 128 → Post tb e args s (.returned v) u) :
    ArmFor flags0 classFile x code maxLocals ret World_1 tables_1 room_1 Calls_1 rest_1 Pre_1 Post := by
  intro l hfl _ _ p e ha hc hk s m args below hf hA hF happ hP
  obtain ⟨hcalls, hrest, hpre⟩ := hP
  obtain ⟨-, -, -, hnamed, -, -, -, hat⟩ := (Spec.applies_iff hf).mp happ
  obtain ⟨hg, hn⟩ := and_e (Cond.before_iff.mp (show (Jvm.Cond.and given_1 narrow_1).before args s = true from hpre))
  obtain ⟨gc, g0⟩ := and_e hg
  obtain ⟨w0, w1, w2, rfl⟩ : ∃ w0 w1 w2 : Value, args = #[w0, w1, w2] := by
    have hs : args.size = 3 := by simpa [Cond.value, given_1] using gc
    obtain ⟨L⟩ := args
    match L, hs with
    | [w0, w1, w2], _ => exact ⟨w0, w1, w2, rfl⟩
  have hw := fun d (hd : d ∈ tables_1) => atoms_spec (ws := Jvm.Cond.code x code maxLocals ret :: tables_1) hat d (List.mem_cons_of_mem _ hd)
  have hfit : Fit s := fun {y c} hc i hi => by
    obtain ⟨ha, rfl⟩ := Array.getElem?_eq_some_iff.mp hc
    have q := List.all_eq_true.mp ((Array.all_eq_true_iff_forall_mem.mp hF) _ (Array.getElem_mem ha)) i (List.mem_range.mpr hi)
    simpa [Array.getElem?_eq_getElem hi] using q
  obtain ⟨ga0, gb0⟩ := and_e g0
  obtain ⟨i0, ei0⟩ := is_v ga0
  obtain rfl : w0 = (.int i0) := Option.some.inj ei0
  obtain ⟨ga1, gb1⟩ := and_e gb0
  obtain ⟨i1, ei1⟩ := is_v ga1
  obtain rfl : w1 = (.int i1) := Option.some.inj ei1
  obtain ⟨i2, ei2⟩ := is_v gb1
  obtain rfl : w2 = (.int i2) := Option.some.inj ei2
  obtain ⟨n, o, h1, h2, h3, _, L, rfl, ⟨rfl, N⟩, hq⟩ := rmlaw l s _ hw tables_1 i0 i1 i2 s.heap s.heap.size (Nat.le_refl _)  p e ha hc hk s m _ below hf ((Spec.applies_iff_loose hf).mp happ).1 ⟨rfl, State.Warmed39.refl s, rfl⟩ trivial
  refine ⟨n, _, h1, h2, h3, hpost _ _ _ _ _ _ ⟨Cond.after_iff.mpr rfl, Cond.after_iff.mpr (eq_i res_at (Term.int_eval (1)) rfl), trivial⟩ ⟨hq.1, hq.2.1, (hq.2.2.sift fun y hy => Or.inr (N y hy)).mono (by decide) (by decide)⟩⟩
theorem main_1_1 : Claimed_1_1 := comes_1 fun _ _ _ _ _ _ h hF => ⟨h.1, hF⟩
theorem main_1_2 : Claimed_1_2 := comes_1 fun _ _ _ _ _ _ h hF => ⟨h.2.1, hF⟩
end Jvm.Pilot.@@N@@
namespace Jvm.Pilot.@@N@@
open Jvm Jvm.ClassFile Sem Op Lib Jvm.Free Jvm.Stand Jvm.Pilot.@@N@@.Jvm.D
/-! MADE BY PROGRAM (witnessworld.py) out of the Statement's table words and the real class files: 9 classes; the members and pool entries that the words name. The judged class is class 1, her method 1. -/
namespace start1
open Jvm.ClassFile
def u (s : String) : CpInfo := .utf8 (stringToUtf16 s)
/-- a pool by its gaps: so many unusable entries, then the entry; so many at the end -/
def gap : Nat → List CpInfo → List CpInfo
  | 0, r => r
  | n + 1, r => .unusable :: gap n r
def poolList (es : List (Nat × CpInfo)) (last : Nat) : List CpInfo := es.foldr (fun e r => gap e.1 (e.2 :: r)) (gap last [])
def pool (es : List (Nat × CpInfo)) (last : Nat) : Array CpInfo := ⟨poolList es last⟩
def fileOf (pool : Array CpInfo) (this : Nat) (attrs : Array Attribute := #[]) (ms : Array MethodInfo := #[]) (fl : Nat := 33) (sup : Nat := 0) (ifs : Array Nat := #[]) (fds : Array FieldInfo := #[]) : ClassFile where
  minorVersion := 0
  majorVersion := 65
  constantPool := pool
  accessFlags := fl
  thisClass := this
  superClass := sup
  interfaces := ifs
  fields := fds
  methods := ms
  attributes := attrs
def plain (name : String) (sup : Option ClassId) : Class where
  name := name
  kind := .ordinary
  loader := none
  accessFlags := 33
  super := sup
  interfaces := #[]
  cf := none
  fields := #[]
  methods := #[]
  instanceTypes := #[]
  staticTypes := #[]
  resolved := #[]
  callSites := []
  init := .initialized
  statics := none
  mirror := none

def pool0 : Array CpInfo := pool [(5, u "<init>"), (0, u "()V"), (1, .class_ 10), (1, u "java/lang/Object")] 113

def k0c0 : Code := { maxStack := 0, maxLocals := 1, code := object_method_1_code, exceptionTable := #[], attributes := #[] }
def k0m0 : Method := { name := "<init>", desc := "()V", sig := { parameters := [], returnType := none }, accessFlags := 1, code := some k0c0 }
/-- java/lang/Object -/
def k0 : Class := { plain "java/lang/Object" none with
  accessFlags := 33
  interfaces := #[]
  cf := some (fileOf pool0 8 #[] #[{ accessFlags := 1, nameIndex := 5, descriptorIndex := 6, attributes := #[] }] 33 0 #[] #[])
  fields := #[]
  methods := #[k0m0]
  instanceTypes := #[]
  staticTypes := #[]
  resolved := Array.replicate 124 none
  statics := none }

def pool1 : Array CpInfo := pool [(2, .class_ 4), (0, .nameAndType 5 6), (0, u "java/lang/Object"), (0, u "<init>"), (0, u "()V"), (0, .integer 2147483647), (0, .class_ 9), (0, u "com/example/hasselt/hasselt/storage/Numbers"), (0, .methodref 8 3), (0, .methodref 8 12), (0, .nameAndType 13 14), (0, u "take"), (0, u "()I"), (0, .methodref 8 16), (0, .nameAndType 17 18), (0, u "giveBack"), (0, u "(I)V"), (0, .methodref 8 20), (0, .nameAndType 21 14), (0, u "limit"), (0, .class_ 23), (0, u "com/example/hasselt/hasselt/storage/NumbersTakePinLaw"), (2, u "law"), (0, u "(III)Z")] 3

def k1m0 : Method := { name := "<init>", desc := "()V", sig := { parameters := [], returnType := none }, accessFlags := 1, code := none }
def k1c1 : Code := { maxStack := 3, maxLocals := 17, code := code, exceptionTable := #[], attributes := #[] }
def k1m1 : Method := { name := "law", desc := "(III)Z", sig := { parameters := [.int, .int, .int], returnType := some .boolean }, accessFlags := 9, code := some k1c1 }
/-- com/example/hasselt/hasselt/storage/NumbersTakePinLaw -/
def k1 : Class := { plain "com/example/hasselt/hasselt/storage/NumbersTakePinLaw" (some 0) with
  accessFlags := 49
  interfaces := #[]
  cf := some (fileOf pool1 22 #[] #[{ accessFlags := 1, nameIndex := 5, descriptorIndex := 6, attributes := #[] }, { accessFlags := 9, nameIndex := 26, descriptorIndex := 27, attributes := #[] }] 49 2 #[] #[])
  fields := #[]
  methods := #[k1m0, k1m1]
  instanceTypes := #[]
  staticTypes := #[]
  resolved := Array.replicate 31 none
  statics := none }

def pool2 : Array CpInfo := pool [(1, .methodref 2 3), (0, .class_ 4), (0, .nameAndType 5 6), (0, u "java/lang/Object"), (0, u "<init>"), (0, u "()V"), (0, .fieldref 8 9), (0, .class_ 10), (0, .nameAndType 11 12), (0, u "com/example/hasselt/hasselt/storage/Numbers"), (0, u "free"), (0, u "[I"), (0, .fieldref 8 14), (0, .nameAndType 15 16), (0, u "freeCount"), (0, u "I"), (0, .fieldref 8 18), (0, .nameAndType 19 16), (0, u "limit"), (8, u "take"), (0, u "()I"), (1, u "giveBack"), (0, u "(I)V")] 4

def k2c0 : Code := { maxStack := 2, maxLocals := 1, code := prog_131_method_1_code, exceptionTable := #[], attributes := #[] }
def k2m0 : Method := { name := "<init>", desc := "()V", sig := { parameters := [], returnType := none }, accessFlags := 0, code := some k2c0 }
def k2c1 : Code := { maxStack := 3, maxLocals := 2, code := prog_131_method_2_code, exceptionTable := #[], attributes := #[] }
def k2m1 : Method := { name := "take", desc := "()I", sig := { parameters := [], returnType := some .int }, accessFlags := 0, code := some k2c1 }
def k2c2 : Code := { maxStack := 4, maxLocals := 2, code := prog_131_method_3_code, exceptionTable := #[], attributes := #[] }
def k2m2 : Method := { name := "giveBack", desc := "(I)V", sig := { parameters := [.int], returnType := none }, accessFlags := 0, code := some k2c2 }
def k2c3 : Code := { maxStack := 1, maxLocals := 1, code := prog_131_method_4_code, exceptionTable := #[], attributes := #[] }
def k2m3 : Method := { name := "limit", desc := "()I", sig := { parameters := [], returnType := some .int }, accessFlags := 0, code := some k2c3 }
/-- com/example/hasselt/hasselt/storage/Numbers -/
def k2 : Class := { plain "com/example/hasselt/hasselt/storage/Numbers" (some 0) with
  accessFlags := 32
  interfaces := #[]
  cf := some (fileOf pool2 8 #[] #[{ accessFlags := 0, nameIndex := 5, descriptorIndex := 6, attributes := #[] }, { accessFlags := 0, nameIndex := 28, descriptorIndex := 29, attributes := #[] }, { accessFlags := 0, nameIndex := 31, descriptorIndex := 32, attributes := #[] }, { accessFlags := 0, nameIndex := 19, descriptorIndex := 29, attributes := #[] }] 32 2 #[] #[{ accessFlags := 2, nameIndex := 19, descriptorIndex := 16, attributes := #[] }, { accessFlags := 2, nameIndex := 11, descriptorIndex := 12, attributes := #[] }, { accessFlags := 2, nameIndex := 15, descriptorIndex := 16, attributes := #[] }])
  fields := #[{ name := "limit", type := .int, accessFlags := 2, slot := 0, constantValue := 0 }, { name := "free", type := (.array .int), accessFlags := 2, slot := 1, constantValue := 0 }, { name := "freeCount", type := .int, accessFlags := 2, slot := 2, constantValue := 0 }]
  methods := #[k2m0, k2m1, k2m2, k2m3]
  instanceTypes := #[.int, (.array .int), .int]
  staticTypes := #[]
  resolved := Array.replicate 37 none
  statics := none }

def pool3 : Array CpInfo := pool [(1, u "java/lang/Cloneable"), (0, .class_ 1), (0, u "java/lang/Object"), (0, .class_ 3)] 3

/-- java/lang/Cloneable -/
def k3 : Class := { plain "java/lang/Cloneable" (some 0) with
  accessFlags := 1537
  interfaces := #[]
  cf := some (fileOf pool3 2 #[] #[] 1537 4 #[] #[])
  fields := #[]
  methods := #[]
  instanceTypes := #[]
  staticTypes := #[]
  resolved := Array.replicate 8 none
  statics := none }

def pool4 : Array CpInfo := pool [(1, u "java/io/Serializable"), (0, .class_ 1), (0, u "java/lang/Object"), (0, .class_ 3)] 3

/-- java/io/Serializable -/
def k4 : Class := { plain "java/io/Serializable" (some 0) with
  accessFlags := 1537
  interfaces := #[]
  cf := some (fileOf pool4 2 #[] #[] 1537 4 #[] #[])
  fields := #[]
  methods := #[]
  instanceTypes := #[]
  staticTypes := #[]
  resolved := Array.replicate 8 none
  statics := none }

/-- the primitive byte -/
def k5 : Class := { plain "byte" none with kind := .primitive 'B', accessFlags := 0x411 }
/-- [B -/
def k6 : Class := { plain "[B" (some 0) with kind := .array 5 .byte, interfaces := #[3, 4], accessFlags := 1041 }

/-- the primitive int -/
def k7 : Class := { plain "int" none with kind := .primitive 'I', accessFlags := 0x411 }
/-- [I -/
def k8 : Class := { plain "[I" (some 0) with kind := .array 7 .int, interfaces := #[3, 4], accessFlags := 1041 }

def heap : Heap := #[]
def classes : Array Class := #[k0, k1, k2, k3, k4, k5, k6, k7, k8]
def interned : List (Array UInt16 × Addr) := []
def slotsUsed : Nat := 0
def theMethod : MethodId := ⟨1, 1⟩
def args0 : Array Value := #[.int 1, .int 1, .int 1]
def aboutOver (below : List Frame) : State where
  vm := { classes := classes, interned := interned.toArray }
  heap := heap
  slotsUsed := slotsUsed
  threads := #[{ frames := .invoking theMethod args0 :: below }]
def below0 : List Frame := [.native { method := ⟨0, 0⟩, args := #[] }]
def about1 : State := aboutOver below0
def p0 : Program := .bare "" "" ""
def e0 : Env := launch0.env 0 0 0
theorem w_frames : about1.frames = Frame.invoking theMethod args0 :: below0 := rfl
set_option maxRecDepth 65536 in
theorem w_args : argsFit about1.vm theMethod args0 = true := by decide +kernel
set_option maxRecDepth 65536 in
theorem w_heap : heapFits about1 = true := by decide +kernel
set_option maxRecDepth 65536 in
theorem w_runnable : about1.curStatus? = some .runnable := by decide +kernel
set_option maxRecDepth 65536 in
theorem w_alone : about1.alone = true := by decide +kernel
set_option maxRecDepth 65536 in
theorem w_named : about1.methodNamed? x = some theMethod := by decide +kernel
set_option maxRecDepth 65536 in
theorem w_hears : about1.hears theMethod below0 = true := by decide +kernel
set_option maxRecDepth 65536 in
theorem w_ripe : about1.ripe theMethod args0 below0 = true := by decide +kernel
theorem w_running : about1.status = .running := rfl
set_option maxRecDepth 65536 in
theorem w_room : about1.hasRoom e0.platform room_1 = true :=
  launch0.hasRoom_least _ room_1 (by decide +kernel) (by decide +kernel) (by decide +kernel) (by decide +kernel) (by decide +kernel) (by decide +kernel)
theorem allAtoms_all (ts : List Jvm.Cond) (a : Array Jvm.Value) (st : Jvm.State) : (allAtoms ts).before a st = ts.all (fun c => c.before a st) := by
  induction ts with
  | nil => rfl
  | cons c t ih =>
    show (Jvm.Cond.and c (allAtoms t)).before a st = _
    rw [Jvm.Cond.before_and, ih, List.all_cons]
def words1 : List Jvm.Cond := Jvm.Cond.code x code maxLocals ret :: tables_1
/-- a 'code' word, met by the world's own term for the bytes: nothing is compared byte by byte -/
theorem code_word {y : MethodName} {bytes : ByteArray} {mx : Nat} {rt : Option FieldType} {a : Array Value} {s : State} {m : MethodId} {meth : Method} {c : Code} (h1 : s.methodNamed? y = some m) (h2 : s.vm.method? m = some meth) (h3 : meth.code = some c) (h4 : c.code = bytes)
    (h5 : (c.maxLocals == mx && c.exceptionTable.isEmpty && decide (c.maxStack ≤ mostOperands) && decide (meth.sig.returnType = rt) && !meth.locks && decide (parseMethodDescriptor y.desc = some meth.sig)) = true) : (Jvm.Cond.code y bytes mx rt).before a s = true := by
  simp only [Bool.and_eq_true, beq_iff_eq, Bool.not_eq_true', decide_eq_true_eq] at h5
  obtain ⟨⟨⟨⟨⟨g1, g2⟩, g3⟩, g4⟩, g5⟩, g6⟩ := h5
  simp [Cond.before, Cond.holds, Cond.value, h1, h2, h3, h4, g1, g2, g3, g4, g5, g6]
def isCode : Jvm.Cond → Bool
  | .code _ _ _ _ => true
  | _ => false
theorem all_split {L : List Jvm.Cond} {P : Jvm.Cond → Bool} (h1 : L.all (fun c => isCode c || P c) = true) (h2 : ∀ c ∈ L.filter isCode, P c = true) : L.all P = true := by
  refine List.all_eq_true.mpr fun c hc => ?_
  have h := List.all_eq_true.mp h1 c hc
  rcases Bool.eq_false_or_eq_true (isCode c) with hi | hi
  · exact h2 c (List.mem_filter.mpr ⟨hc, hi⟩)
  · simpa [hi] using h
set_option maxRecDepth 65536 in
theorem w_c0 : (Jvm.Cond.code x code maxLocals ret).before args0 about1 = true := code_word (m := ⟨1, 1⟩) (meth := k1m1) (c := k1c1) (by decide +kernel) rfl rfl rfl (by decide +kernel)
set_option maxRecDepth 65536 in
theorem w_c1 : (Jvm.Cond.code ({ cls := "com/example/hasselt/hasselt/storage/Numbers", name := "<init>", desc := "()V" } : Jvm.MethodName) prog_131_method_1_code (1 : Nat) (Option.none : Option Jvm.ClassFile.FieldType)).before args0 about1 = true := code_word (m := ⟨2, 0⟩) (meth := k2m0) (c := k2c0) (by decide +kernel) rfl rfl rfl (by decide +kernel)
set_option maxRecDepth 65536 in
theorem w_c2 : (Jvm.Cond.code ({ cls := "java/lang/Object", name := "<init>", desc := "()V" } : Jvm.MethodName) object_method_1_code (1 : Nat) (Option.none : Option Jvm.ClassFile.FieldType)).before args0 about1 = true := code_word (m := ⟨0, 0⟩) (meth := k0m0) (c := k0c0) (by decide +kernel) rfl rfl rfl (by decide +kernel)
set_option maxRecDepth 65536 in
theorem w_c3 : (Jvm.Cond.code ({ cls := "com/example/hasselt/hasselt/storage/Numbers", name := "take", desc := "()I" } : Jvm.MethodName) prog_131_method_2_code (2 : Nat) (Option.some Jvm.ClassFile.FieldType.int)).before args0 about1 = true := code_word (m := ⟨2, 1⟩) (meth := k2m1) (c := k2c1) (by decide +kernel) rfl rfl rfl (by decide +kernel)
set_option maxRecDepth 65536 in
theorem w_c4 : (Jvm.Cond.code ({ cls := "com/example/hasselt/hasselt/storage/Numbers", name := "limit", desc := "()I" } : Jvm.MethodName) prog_131_method_4_code (1 : Nat) (Option.some Jvm.ClassFile.FieldType.int)).before args0 about1 = true := code_word (m := ⟨2, 3⟩) (meth := k2m3) (c := k2c3) (by decide +kernel) rfl rfl rfl (by decide +kernel)
set_option maxRecDepth 65536 in
theorem w_c5 : (Jvm.Cond.code ({ cls := "com/example/hasselt/hasselt/storage/Numbers", name := "giveBack", desc := "(I)V" } : Jvm.MethodName) prog_131_method_3_code (2 : Nat) (Option.none : Option Jvm.ClassFile.FieldType)).before args0 about1 = true := code_word (m := ⟨2, 2⟩) (meth := k2m2) (c := k2c2) (by decide +kernel) rfl rfl rfl (by decide +kernel)
def codes1 : List Jvm.Cond := [Jvm.Cond.code x code maxLocals ret, Jvm.Cond.code ({ cls := "com/example/hasselt/hasselt/storage/Numbers", name := "<init>", desc := "()V" } : Jvm.MethodName) prog_131_method_1_code (1 : Nat) (Option.none : Option Jvm.ClassFile.FieldType), Jvm.Cond.code ({ cls := "java/lang/Object", name := "<init>", desc := "()V" } : Jvm.MethodName) object_method_1_code (1 : Nat) (Option.none : Option Jvm.ClassFile.FieldType), Jvm.Cond.code ({ cls := "com/example/hasselt/hasselt/storage/Numbers", name := "take", desc := "()I" } : Jvm.MethodName) prog_131_method_2_code (2 : Nat) (Option.some Jvm.ClassFile.FieldType.int), Jvm.Cond.code ({ cls := "com/example/hasselt/hasselt/storage/Numbers", name := "limit", desc := "()I" } : Jvm.MethodName) prog_131_method_4_code (1 : Nat) (Option.some Jvm.ClassFile.FieldType.int), Jvm.Cond.code ({ cls := "com/example/hasselt/hasselt/storage/Numbers", name := "giveBack", desc := "(I)V" } : Jvm.MethodName) prog_131_method_3_code (2 : Nat) (Option.none : Option Jvm.ClassFile.FieldType)]
set_option maxRecDepth 65536 in
theorem codes_eq : words1.filter isCode = codes1 := rfl
theorem w_codes : ∀ c ∈ words1.filter isCode, c.before args0 about1 = true := by
  rw [codes_eq]
  intro c hc
  simp only [codes1, List.mem_cons, List.not_mem_nil, or_false] at hc
  rcases hc with rfl | rfl | rfl | rfl | rfl | rfl
  · exact w_c0
  · exact w_c1
  · exact w_c2
  · exact w_c3
  · exact w_c4
  · exact w_c5
set_option maxRecDepth 65536 in
theorem w_t1 : (words1.take 24).all (fun c => isCode c || c.before args0 about1) = true := by decide +kernel
set_option maxRecDepth 65536 in
theorem w_t2 : (words1.drop 24).all (fun c => isCode c || c.before args0 about1) = true := by decide +kernel
theorem w_tables : (allAtoms (Jvm.Cond.code x code maxLocals ret :: tables_1)).before args0 about1 = true := by
  rw [allAtoms_all]
  show words1.all (fun c => c.before args0 about1) = true
  refine all_split ?_ w_codes
  rw [← List.take_append_drop 24 words1, List.all_append, w_t1, w_t2]
  rfl
set_option maxRecDepth 65536 in
theorem w_case : (Jvm.Cond.and given_1 narrow_1).before args0 about1 = true := by decide +kernel
theorem w_applies : (headSpec (Jvm.Cond.code x code maxLocals ret :: tables_1) room_1).applies x e0.platform about1 = true :=
  (Spec.applies_iff w_frames).mpr ⟨w_running, w_runnable, w_alone, w_named, w_hears, w_ripe, w_room, w_tables⟩
theorem atStart : AtStart classFile x code maxLocals ret World_1 tables_1 room_1 Calls_1 rest_1 Pre_1 launch0 p0 e0 about1 theMethod args0 below0 :=
  ⟨lists_1, trivial, launch0.admits_env _ _ _, launch0.least_env, fairChoices_fair.cas, fairChoices_fair.clock, w_frames, w_args, w_heap, w_applies, trivial, trivial, w_case⟩
end start1
theorem witness_1 : WitnessClaimed_1 := ⟨start1.p0, start1.e0, start1.about1, start1.theMethod, start1.args0, start1.below0, start1.atStart⟩
end Jvm.Pilot.@@N@@
